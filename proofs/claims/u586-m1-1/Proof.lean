import JvmDerived
import JvmDerived.Pilot.@@N@@Statement
import JvmDerived.Pilot.@@N@@Code
set_option linter.unusedVariables false
set_option linter.unusedSimpArgs false
namespace Jvm.RoadKit
open Sem ClassFile Op Lib Jvm.Stand Jvm.Free Jvm.LawKit
section New
variable {p : Program} {l : Launch} {e : Env} {R : Room} {s : State} {m : MethodId} {args : Array Value} {below : List Frame} {meth : Method} {c : Code} {T : State} {locs : List Loc} {cells slots : Nat}
theorem retI (X : Stand p l e R s m args below meth c T locs cells slots) (hx : p.tables.exec = Jvm.exec) {pc : Nat} {Ls : Array Slot} {z : Int32} {rest : List Value} (hret : meth.sig.returnType = some .int) (hd : decode c.code pc = .ok (.ireturn, 1)) {fs : List Frame}
    (hl : ∀ (f : JFrame) (acts : List Action), f.method = m → f.locked = none → f.entered = [] → (doReturn e (T.setTop f) acts (some (.int z))).1 = T.setFrames fs) : Steps p.tables e below (T.setTop (mkF m pc Ls (.int z :: rest))) (T.setFrames fs) := by
  have hm' : T.vm.method? m = some meth := X.method'
  have hn : narrow .int (.int z) = .int z := rfl
  show Steps p.tables e below (T.setTop { method := m, pc := pc, locals := Ls, stack := _ :: rest, locked := none }) _
  jvm_step X.here [X.here.top, hx, hd, hm', hret, hn]
  first | (intro acts; rw [hl _ acts rfl rfl rfl]) | rw [hl _ _ rfl rfl rfl]
  exact Steps.refl _
end New
end Jvm.RoadKit
namespace Jvm.Pilot.@@N@@
open Jvm Jvm.ClassFile Sem Op Lib Jvm.Free Jvm.Stand Jvm.LawKit Jvm.RoadKit Bundle Jvm.Pilot.@@N@@.Jvm.D

def Pw (x : Int32) : Prop := x = (8 : Int32) ∨ x = (16 : Int32) ∨ x = (32 : Int32) ∨ x = (64 : Int32) ∨ x = (128 : Int32) ∨ x = (256 : Int32) ∨ x = (512 : Int32) ∨ x = (1024 : Int32)
def Qi (h0 : Heap) (n0 : Nat) (v : Option Value) (h : Heap) (L : List Loc) : Prop := ∃ r : Int32, v = some (.int r) ∧ Fr n0 L ∧ h = h0
theorem own_sel {s : State} {args : Array Value} {n : Nat} {y : MethodName} (h1 : (Jvm.Cond.instantiable y.cls n).before args s = true) (hp : s.PrivateAt y) (h2 : (Jvm.Cond.instanceMethod y).before args s = true) (hy : y.cls ≠ "java/lang/invoke/MethodHandle" ∧ y.cls ≠ "java/lang/invoke/VarHandle") : (Jvm.Cond.selects y.cls y y).before args s = true := by
  obtain ⟨c, k, hc, hk, -, hniab, -, -⟩ := Cond.instantiable_spec h1
  exact selects_self_of_private hc hk (Bool.or_eq_false_iff.mp hniab).1 hp h2 hy
theorem d3_0 : decode jdk_33_method_48_code 0 = .ok (.iload_n 0, 1) := by decide +kernel
theorem d3_1 : decode jdk_33_method_48_code 1 = .ok (.iconst (-1), 1) := by decide +kernel
theorem d3_2 : decode jdk_33_method_48_code 2 = .ok (.ixor, 1) := by decide +kernel
theorem d3_3 : decode jdk_33_method_48_code 3 = .ok (.iload_n 0, 1) := by decide +kernel
theorem d3_4 : decode jdk_33_method_48_code 4 = .ok (.iconst 1, 1) := by decide +kernel
theorem d3_5 : decode jdk_33_method_48_code 5 = .ok (.isub, 1) := by decide +kernel
theorem d3_6 : decode jdk_33_method_48_code 6 = .ok (.iand, 1) := by decide +kernel
theorem d3_7 : decode jdk_33_method_48_code 7 = .ok (.istore_n 0, 1) := by decide +kernel
theorem d3_8 : decode jdk_33_method_48_code 8 = .ok (.iload_n 0, 1) := by decide +kernel
theorem d3_9 : decode jdk_33_method_48_code 9 = .ok (.ifCond .gt 8, 3) := by decide +kernel
theorem d3_17 : decode jdk_33_method_48_code 17 = .ok (.iconst 1, 1) := by decide +kernel
theorem d3_18 : decode jdk_33_method_48_code 18 = .ok (.istore_n 1, 1) := by decide +kernel
theorem d3_19 : decode jdk_33_method_48_code 19 = .ok (.iload_n 0, 1) := by decide +kernel
theorem d3_20 : decode jdk_33_method_48_code 20 = .ok (.ldc_w 264, 3) := by decide +kernel
theorem d3_23 : decode jdk_33_method_48_code 23 = .ok (.if_icmp .le 11, 3) := by decide +kernel
theorem d3_34 : decode jdk_33_method_48_code 34 = .ok (.iload_n 0, 1) := by decide +kernel
theorem d3_35 : decode jdk_33_method_48_code 35 = .ok (.sipush 256, 3) := by decide +kernel
theorem d3_38 : decode jdk_33_method_48_code 38 = .ok (.if_icmp .le 11, 3) := by decide +kernel
theorem d3_49 : decode jdk_33_method_48_code 49 = .ok (.iload_n 0, 1) := by decide +kernel
theorem d3_50 : decode jdk_33_method_48_code 50 = .ok (.bipush 16, 2) := by decide +kernel
theorem d3_52 : decode jdk_33_method_48_code 52 = .ok (.if_icmp .le 10, 3) := by decide +kernel
theorem d3_62 : decode jdk_33_method_48_code 62 = .ok (.iload_n 0, 1) := by decide +kernel
theorem d3_63 : decode jdk_33_method_48_code 63 = .ok (.iconst 4, 1) := by decide +kernel
theorem d3_64 : decode jdk_33_method_48_code 64 = .ok (.if_icmp .le 10, 3) := by decide +kernel
theorem d3_67 : decode jdk_33_method_48_code 67 = .ok (.iinc 1 2, 3) := by decide +kernel
theorem d3_70 : decode jdk_33_method_48_code 70 = .ok (.iload_n 0, 1) := by decide +kernel
theorem d3_71 : decode jdk_33_method_48_code 71 = .ok (.iconst 2, 1) := by decide +kernel
theorem d3_72 : decode jdk_33_method_48_code 72 = .ok (.iushr, 1) := by decide +kernel
theorem d3_73 : decode jdk_33_method_48_code 73 = .ok (.istore_n 0, 1) := by decide +kernel
theorem d3_74 : decode jdk_33_method_48_code 74 = .ok (.iload_n 1, 1) := by decide +kernel
theorem d3_75 : decode jdk_33_method_48_code 75 = .ok (.iload_n 0, 1) := by decide +kernel
theorem d3_76 : decode jdk_33_method_48_code 76 = .ok (.iconst 1, 1) := by decide +kernel
theorem d3_77 : decode jdk_33_method_48_code 77 = .ok (.iushr, 1) := by decide +kernel
theorem d3_78 : decode jdk_33_method_48_code 78 = .ok (.iadd, 1) := by decide +kernel
theorem d3_79 : decode jdk_33_method_48_code 79 = .ok (.ireturn, 1) := by decide +kernel
theorem pn_3 : plainName "java/lang/Integer" = true := by first | (simp [plainName, overriddenIn]; done) | decide +kernel
theorem ef_3 (m : MethodId) (x0 : Int32) : entryFrame m #[(.int x0)] 2 = mkF m 0 #[.val (.int x0), .unset] [] := by first | (simp [entryFrame, mkF, argsToLocals, Value.category]; done) | rfl
set_option maxRecDepth 65536 in
set_option maxHeartbeats 40000000 in
theorem rm3_ttttf (l : Launch) (Z : State) (a0 : Array Value) (hw : ∀ d ∈ tables_1, d.before a0 Z = true) (ws : List Jvm.Cond) (p1 : Int32) (h0 : Heap) (n0 : Nat) (Z0 : n0 ≤ h0.size) (hc9 : (0 : Int32) < ((p1 ^^^ (-1 : Int32)) &&& (p1 - (1 : Int32)))) (hc23 : ¬ ((65536 : Int32) < ((p1 ^^^ (-1 : Int32)) &&& (p1 - (1 : Int32))))) (hc38 : ¬ ((256 : Int32) < ((p1 ^^^ (-1 : Int32)) &&& (p1 - (1 : Int32))))) (hc52 : ¬ ((16 : Int32) < ((p1 ^^^ (-1 : Int32)) &&& (p1 - (1 : Int32))))) (hc64 : (4 : Int32) < ((p1 ^^^ (-1 : Int32)) &&& (p1 - (1 : Int32)))) :
    MetFree l (⟨"java/lang/Integer", "numberOfTrailingZeros", "(I)I"⟩ : MethodName) (head1 (Jvm.Cond.code (⟨"java/lang/Integer", "numberOfTrailingZeros", "(I)I"⟩ : MethodName) jdk_33_method_48_code 2 (some .int) :: ws) ({ frames := 0, cells := 0, slots := 0, locals := 0 } : Room)) (fun a U => a = #[(.int p1)] ∧ Z.Warmed39 U.vm ∧ U.heap = h0) (fun _ _ _ _ _ => True) (fun _ U o U' => ∃ v L, o = .returned v ∧ Qi  h0 n0 v U'.heap L ∧ FrameEnd U o U' L ({ frames := 0, cells := 0, slots := 0, locals := 0 } : Room).cells ({ frames := 0, cells := 0, slots := 0, locals := 0 } : Room).slots) := by
  refine MetFree.of_bodySF (plainFor_of_name pn_3) hisR ?_
  intro p e s m args below meth c s₁ Bd hml0 hP hK
  obtain ⟨rfl, hZ, hh⟩ := hP
  have hx := Bd.exec
  have hby := Bd.bytes
  have hml : c.maxLocals = 2 := hml0
  have hown : s.vm.findClass "java/lang/Integer" = some m.cls := findClass_of_methodNamed Bd.named
  have hnm := (name_of_methodNamed Bd.named Bd.method).1
  have X0 : Stand p l e ({ frames := 0, cells := 0, slots := 0, locals := 0 } : Room) s m #[(.int p1)] below meth c s₁ [] 0 0 := Stand.of_body Bd
  have e0 : s₁.heap = h0 := by rw [← hh, Bd.state]; rfl
  have N0 := Fr.nil n0
  have pre0 : ∀ t, Steps p.tables e below (s₁.setTop (mkF m 0 #[.val (.int p1), .unset] [])) t → Steps p.tables e below (s₁.setTop (entryFrame m #[(.int p1)] 2)) t := fun t k => castTop (ef_3 m p1) k

  obtain ⟨fs, hr, hrun, hended, hW, hsame⟩ := X0.leave (v := some (.int (((1 : Int32) + (2 : Int32)) + ((((((p1 ^^^ (-1 : Int32)) &&& (p1 - (1 : Int32))).toUInt32 >>> ((2 : Int32) &&& 31).toUInt32).toInt32).toUInt32 >>> ((1 : Int32) &&& 31).toUInt32).toInt32)))) (fun h => by rw [Bd.returns] at h; cases h)
  refine ⟨_, _, pre0 _ ?_, hrun, hended, _, _, rfl, ?_, ⟨_, rfl⟩, hW, hsame.mono (by decide) (by decide)⟩
  · show Steps p.tables e below (s₁.setTop (mkF m 0 #[.val (.int p1), .unset] [])) _
    refine XS.iloadN X0.here hx rfl (hb hby d3_0) rfl ?_
    show Steps p.tables e below (s₁.setTop (mkF m 1 #[.val (.int p1), .unset] [(.int p1)])) _
    refine XS.iconst X0.here hx rfl (hb hby d3_1) ?_
    show Steps p.tables e below (s₁.setTop (mkF m 2 #[.val (.int p1), .unset] [(.int (-1 : Int32)), (.int p1)])) _
    refine XS.ixor X0.here hx rfl (hb hby d3_2) rfl ?_
    show Steps p.tables e below (s₁.setTop (mkF m 3 #[.val (.int p1), .unset] [(.int (p1 ^^^ (-1 : Int32)))])) _
    refine XS.iloadN X0.here hx rfl (hb hby d3_3) rfl ?_
    show Steps p.tables e below (s₁.setTop (mkF m 4 #[.val (.int p1), .unset] [(.int p1), (.int (p1 ^^^ (-1 : Int32)))])) _
    refine XS.iconst X0.here hx rfl (hb hby d3_4) ?_
    show Steps p.tables e below (s₁.setTop (mkF m 5 #[.val (.int p1), .unset] [(.int (1 : Int32)), (.int p1), (.int (p1 ^^^ (-1 : Int32)))])) _
    refine XS.isub X0.here hx rfl (hb hby d3_5) rfl ?_
    show Steps p.tables e below (s₁.setTop (mkF m 6 #[.val (.int p1), .unset] [(.int (p1 - (1 : Int32))), (.int (p1 ^^^ (-1 : Int32)))])) _
    refine XS.iand X0.here hx rfl (hb hby d3_6) rfl ?_
    show Steps p.tables e below (s₁.setTop (mkF m 7 #[.val (.int p1), .unset] [(.int ((p1 ^^^ (-1 : Int32)) &&& (p1 - (1 : Int32))))])) _
    refine XS.istoreN X0.here hx rfl (hb hby d3_7) rfl (l' := #[.val (.int ((p1 ^^^ (-1 : Int32)) &&& (p1 - (1 : Int32)))), .unset]) rfl ?_
    show Steps p.tables e below (s₁.setTop (mkF m 8 #[.val (.int ((p1 ^^^ (-1 : Int32)) &&& (p1 - (1 : Int32)))), .unset] [])) _
    refine XS.iloadN X0.here hx rfl (hb hby d3_8) rfl ?_
    show Steps p.tables e below (s₁.setTop (mkF m 9 #[.val (.int ((p1 ^^^ (-1 : Int32)) &&& (p1 - (1 : Int32)))), .unset] [(.int ((p1 ^^^ (-1 : Int32)) &&& (p1 - (1 : Int32))))])) _
    refine XS.ifYes X0.here hx rfl (pc0 := 9) (pc' := 17) rfl (hb hby d3_9) rfl ((if0 _ _).trans (tlt hc9).2.2.1) (by decide) (by decide) ?_
    show Steps p.tables e below (s₁.setTop (mkF m 17 #[.val (.int ((p1 ^^^ (-1 : Int32)) &&& (p1 - (1 : Int32)))), .unset] [])) _
    refine XS.iconst X0.here hx rfl (hb hby d3_17) ?_
    show Steps p.tables e below (s₁.setTop (mkF m 18 #[.val (.int ((p1 ^^^ (-1 : Int32)) &&& (p1 - (1 : Int32)))), .unset] [(.int (1 : Int32))])) _
    refine XS.istoreN X0.here hx rfl (hb hby d3_18) rfl (l' := #[.val (.int ((p1 ^^^ (-1 : Int32)) &&& (p1 - (1 : Int32)))), .val (.int (1 : Int32))]) rfl ?_
    show Steps p.tables e below (s₁.setTop (mkF m 19 #[.val (.int ((p1 ^^^ (-1 : Int32)) &&& (p1 - (1 : Int32)))), .val (.int (1 : Int32))] [])) _
    refine XS.iloadN X0.here hx rfl (hb hby d3_19) rfl ?_
    show Steps p.tables e below (s₁.setTop (mkF m 20 #[.val (.int ((p1 ^^^ (-1 : Int32)) &&& (p1 - (1 : Int32)))), .val (.int (1 : Int32))] [(.int ((p1 ^^^ (-1 : Int32)) &&& (p1 - (1 : Int32))))])) _
    refine X0.ldcwInt hx hown (mvT hZ (hw _ (List.mem_of_getElem? (i := 25) rfl))) (g := (mkF m 20 #[.val (.int ((p1 ^^^ (-1 : Int32)) &&& (p1 - (1 : Int32)))), .val (.int (1 : Int32))] [(.int ((p1 ^^^ (-1 : Int32)) &&& (p1 - (1 : Int32))))])) rfl (hb hby d3_20) _ ?_
    show Steps p.tables e below (s₁.setTop (mkF m 23 #[.val (.int ((p1 ^^^ (-1 : Int32)) &&& (p1 - (1 : Int32)))), .val (.int (1 : Int32))] [(.int (65536 : Int32)), (.int ((p1 ^^^ (-1 : Int32)) &&& (p1 - (1 : Int32))))])) _
    refine XS.icmpYes X0.here hx rfl (pc0 := 23) (pc' := 34) rfl (hb hby d3_23) rfl (flt hc23).2.2.2 (by decide) (by decide) ?_
    show Steps p.tables e below (s₁.setTop (mkF m 34 #[.val (.int ((p1 ^^^ (-1 : Int32)) &&& (p1 - (1 : Int32)))), .val (.int (1 : Int32))] [])) _
    refine XS.iloadN X0.here hx rfl (hb hby d3_34) rfl ?_
    show Steps p.tables e below (s₁.setTop (mkF m 35 #[.val (.int ((p1 ^^^ (-1 : Int32)) &&& (p1 - (1 : Int32)))), .val (.int (1 : Int32))] [(.int ((p1 ^^^ (-1 : Int32)) &&& (p1 - (1 : Int32))))])) _
    refine XS.sipush X0.here hx rfl (hb hby d3_35) ?_
    show Steps p.tables e below (s₁.setTop (mkF m 38 #[.val (.int ((p1 ^^^ (-1 : Int32)) &&& (p1 - (1 : Int32)))), .val (.int (1 : Int32))] [(.int (256 : Int32)), (.int ((p1 ^^^ (-1 : Int32)) &&& (p1 - (1 : Int32))))])) _
    refine XS.icmpYes X0.here hx rfl (pc0 := 38) (pc' := 49) rfl (hb hby d3_38) rfl (flt hc38).2.2.2 (by decide) (by decide) ?_
    show Steps p.tables e below (s₁.setTop (mkF m 49 #[.val (.int ((p1 ^^^ (-1 : Int32)) &&& (p1 - (1 : Int32)))), .val (.int (1 : Int32))] [])) _
    refine XS.iloadN X0.here hx rfl (hb hby d3_49) rfl ?_
    show Steps p.tables e below (s₁.setTop (mkF m 50 #[.val (.int ((p1 ^^^ (-1 : Int32)) &&& (p1 - (1 : Int32)))), .val (.int (1 : Int32))] [(.int ((p1 ^^^ (-1 : Int32)) &&& (p1 - (1 : Int32))))])) _
    refine XS.bipush X0.here hx rfl (hb hby d3_50) ?_
    show Steps p.tables e below (s₁.setTop (mkF m 52 #[.val (.int ((p1 ^^^ (-1 : Int32)) &&& (p1 - (1 : Int32)))), .val (.int (1 : Int32))] [(.int (16 : Int32)), (.int ((p1 ^^^ (-1 : Int32)) &&& (p1 - (1 : Int32))))])) _
    refine XS.icmpYes X0.here hx rfl (pc0 := 52) (pc' := 62) rfl (hb hby d3_52) rfl (flt hc52).2.2.2 (by decide) (by decide) ?_
    show Steps p.tables e below (s₁.setTop (mkF m 62 #[.val (.int ((p1 ^^^ (-1 : Int32)) &&& (p1 - (1 : Int32)))), .val (.int (1 : Int32))] [])) _
    refine XS.iloadN X0.here hx rfl (hb hby d3_62) rfl ?_
    show Steps p.tables e below (s₁.setTop (mkF m 63 #[.val (.int ((p1 ^^^ (-1 : Int32)) &&& (p1 - (1 : Int32)))), .val (.int (1 : Int32))] [(.int ((p1 ^^^ (-1 : Int32)) &&& (p1 - (1 : Int32))))])) _
    refine XS.iconst X0.here hx rfl (hb hby d3_63) ?_
    show Steps p.tables e below (s₁.setTop (mkF m 64 #[.val (.int ((p1 ^^^ (-1 : Int32)) &&& (p1 - (1 : Int32)))), .val (.int (1 : Int32))] [(.int (4 : Int32)), (.int ((p1 ^^^ (-1 : Int32)) &&& (p1 - (1 : Int32))))])) _
    refine XS.icmpNo X0.here hx rfl (hb hby d3_64) rfl (tlt hc64).2.2.2 ?_
    show Steps p.tables e below (s₁.setTop (mkF m 67 #[.val (.int ((p1 ^^^ (-1 : Int32)) &&& (p1 - (1 : Int32)))), .val (.int (1 : Int32))] [])) _
    refine XS.iinc X0.here hx rfl (hb hby d3_67) rfl (l' := #[.val (.int ((p1 ^^^ (-1 : Int32)) &&& (p1 - (1 : Int32)))), .val (.int ((1 : Int32) + (2 : Int32)))]) rfl ?_
    show Steps p.tables e below (s₁.setTop (mkF m 70 #[.val (.int ((p1 ^^^ (-1 : Int32)) &&& (p1 - (1 : Int32)))), .val (.int ((1 : Int32) + (2 : Int32)))] [])) _
    refine XS.iloadN X0.here hx rfl (hb hby d3_70) rfl ?_
    show Steps p.tables e below (s₁.setTop (mkF m 71 #[.val (.int ((p1 ^^^ (-1 : Int32)) &&& (p1 - (1 : Int32)))), .val (.int ((1 : Int32) + (2 : Int32)))] [(.int ((p1 ^^^ (-1 : Int32)) &&& (p1 - (1 : Int32))))])) _
    refine XS.iconst X0.here hx rfl (hb hby d3_71) ?_
    show Steps p.tables e below (s₁.setTop (mkF m 72 #[.val (.int ((p1 ^^^ (-1 : Int32)) &&& (p1 - (1 : Int32)))), .val (.int ((1 : Int32) + (2 : Int32)))] [(.int (2 : Int32)), (.int ((p1 ^^^ (-1 : Int32)) &&& (p1 - (1 : Int32))))])) _
    refine XS.iushr X0.here hx rfl (hb hby d3_72) rfl ?_
    show Steps p.tables e below (s₁.setTop (mkF m 73 #[.val (.int ((p1 ^^^ (-1 : Int32)) &&& (p1 - (1 : Int32)))), .val (.int ((1 : Int32) + (2 : Int32)))] [(.int ((((p1 ^^^ (-1 : Int32)) &&& (p1 - (1 : Int32))).toUInt32 >>> ((2 : Int32) &&& 31).toUInt32).toInt32))])) _
    refine XS.istoreN X0.here hx rfl (hb hby d3_73) rfl (l' := #[.val (.int ((((p1 ^^^ (-1 : Int32)) &&& (p1 - (1 : Int32))).toUInt32 >>> ((2 : Int32) &&& 31).toUInt32).toInt32)), .val (.int ((1 : Int32) + (2 : Int32)))]) rfl ?_
    show Steps p.tables e below (s₁.setTop (mkF m 74 #[.val (.int ((((p1 ^^^ (-1 : Int32)) &&& (p1 - (1 : Int32))).toUInt32 >>> ((2 : Int32) &&& 31).toUInt32).toInt32)), .val (.int ((1 : Int32) + (2 : Int32)))] [])) _
    refine XS.iloadN X0.here hx rfl (hb hby d3_74) rfl ?_
    show Steps p.tables e below (s₁.setTop (mkF m 75 #[.val (.int ((((p1 ^^^ (-1 : Int32)) &&& (p1 - (1 : Int32))).toUInt32 >>> ((2 : Int32) &&& 31).toUInt32).toInt32)), .val (.int ((1 : Int32) + (2 : Int32)))] [(.int ((1 : Int32) + (2 : Int32)))])) _
    refine XS.iloadN X0.here hx rfl (hb hby d3_75) rfl ?_
    show Steps p.tables e below (s₁.setTop (mkF m 76 #[.val (.int ((((p1 ^^^ (-1 : Int32)) &&& (p1 - (1 : Int32))).toUInt32 >>> ((2 : Int32) &&& 31).toUInt32).toInt32)), .val (.int ((1 : Int32) + (2 : Int32)))] [(.int ((((p1 ^^^ (-1 : Int32)) &&& (p1 - (1 : Int32))).toUInt32 >>> ((2 : Int32) &&& 31).toUInt32).toInt32)), (.int ((1 : Int32) + (2 : Int32)))])) _
    refine XS.iconst X0.here hx rfl (hb hby d3_76) ?_
    show Steps p.tables e below (s₁.setTop (mkF m 77 #[.val (.int ((((p1 ^^^ (-1 : Int32)) &&& (p1 - (1 : Int32))).toUInt32 >>> ((2 : Int32) &&& 31).toUInt32).toInt32)), .val (.int ((1 : Int32) + (2 : Int32)))] [(.int (1 : Int32)), (.int ((((p1 ^^^ (-1 : Int32)) &&& (p1 - (1 : Int32))).toUInt32 >>> ((2 : Int32) &&& 31).toUInt32).toInt32)), (.int ((1 : Int32) + (2 : Int32)))])) _
    refine XS.iushr X0.here hx rfl (hb hby d3_77) rfl ?_
    show Steps p.tables e below (s₁.setTop (mkF m 78 #[.val (.int ((((p1 ^^^ (-1 : Int32)) &&& (p1 - (1 : Int32))).toUInt32 >>> ((2 : Int32) &&& 31).toUInt32).toInt32)), .val (.int ((1 : Int32) + (2 : Int32)))] [(.int ((((((p1 ^^^ (-1 : Int32)) &&& (p1 - (1 : Int32))).toUInt32 >>> ((2 : Int32) &&& 31).toUInt32).toInt32).toUInt32 >>> ((1 : Int32) &&& 31).toUInt32).toInt32)), (.int ((1 : Int32) + (2 : Int32)))])) _
    refine XS.iadd X0.here hx rfl (hb hby d3_78) rfl ?_
    show Steps p.tables e below (s₁.setTop (mkF m 79 #[.val (.int ((((p1 ^^^ (-1 : Int32)) &&& (p1 - (1 : Int32))).toUInt32 >>> ((2 : Int32) &&& 31).toUInt32).toInt32)), .val (.int ((1 : Int32) + (2 : Int32)))] [(.int (((1 : Int32) + (2 : Int32)) + ((((((p1 ^^^ (-1 : Int32)) &&& (p1 - (1 : Int32))).toUInt32 >>> ((2 : Int32) &&& 31).toUInt32).toInt32).toUInt32 >>> ((1 : Int32) &&& 31).toUInt32).toInt32)))])) _
    exact retI X0 hx Bd.returns (hb hby d3_79) hr
  · show Qi  h0 n0 _ s₁.heap _
    rw [e0]
    exact ⟨_, rfl, N0, rfl⟩
theorem d3_55 : decode jdk_33_method_48_code 55 = .ok (.iinc 1 4, 3) := by decide +kernel
theorem d3_58 : decode jdk_33_method_48_code 58 = .ok (.iload_n 0, 1) := by decide +kernel
theorem d3_59 : decode jdk_33_method_48_code 59 = .ok (.iconst 4, 1) := by decide +kernel
theorem d3_60 : decode jdk_33_method_48_code 60 = .ok (.iushr, 1) := by decide +kernel
theorem d3_61 : decode jdk_33_method_48_code 61 = .ok (.istore_n 0, 1) := by decide +kernel
set_option maxRecDepth 65536 in
set_option maxHeartbeats 40000000 in
theorem rm3_tttft (l : Launch) (Z : State) (a0 : Array Value) (hw : ∀ d ∈ tables_1, d.before a0 Z = true) (ws : List Jvm.Cond) (p1 : Int32) (h0 : Heap) (n0 : Nat) (Z0 : n0 ≤ h0.size) (hc9 : (0 : Int32) < ((p1 ^^^ (-1 : Int32)) &&& (p1 - (1 : Int32)))) (hc23 : ¬ ((65536 : Int32) < ((p1 ^^^ (-1 : Int32)) &&& (p1 - (1 : Int32))))) (hc38 : ¬ ((256 : Int32) < ((p1 ^^^ (-1 : Int32)) &&& (p1 - (1 : Int32))))) (hc52 : (16 : Int32) < ((p1 ^^^ (-1 : Int32)) &&& (p1 - (1 : Int32)))) (hc64 : ¬ ((4 : Int32) < ((((p1 ^^^ (-1 : Int32)) &&& (p1 - (1 : Int32))).toUInt32 >>> ((4 : Int32) &&& 31).toUInt32).toInt32))) :
    MetFree l (⟨"java/lang/Integer", "numberOfTrailingZeros", "(I)I"⟩ : MethodName) (head1 (Jvm.Cond.code (⟨"java/lang/Integer", "numberOfTrailingZeros", "(I)I"⟩ : MethodName) jdk_33_method_48_code 2 (some .int) :: ws) ({ frames := 0, cells := 0, slots := 0, locals := 0 } : Room)) (fun a U => a = #[(.int p1)] ∧ Z.Warmed39 U.vm ∧ U.heap = h0) (fun _ _ _ _ _ => True) (fun _ U o U' => ∃ v L, o = .returned v ∧ Qi  h0 n0 v U'.heap L ∧ FrameEnd U o U' L ({ frames := 0, cells := 0, slots := 0, locals := 0 } : Room).cells ({ frames := 0, cells := 0, slots := 0, locals := 0 } : Room).slots) := by
  refine MetFree.of_bodySF (plainFor_of_name pn_3) hisR ?_
  intro p e s m args below meth c s₁ Bd hml0 hP hK
  obtain ⟨rfl, hZ, hh⟩ := hP
  have hx := Bd.exec
  have hby := Bd.bytes
  have hml : c.maxLocals = 2 := hml0
  have hown : s.vm.findClass "java/lang/Integer" = some m.cls := findClass_of_methodNamed Bd.named
  have hnm := (name_of_methodNamed Bd.named Bd.method).1
  have X0 : Stand p l e ({ frames := 0, cells := 0, slots := 0, locals := 0 } : Room) s m #[(.int p1)] below meth c s₁ [] 0 0 := Stand.of_body Bd
  have e0 : s₁.heap = h0 := by rw [← hh, Bd.state]; rfl
  have N0 := Fr.nil n0
  have pre0 : ∀ t, Steps p.tables e below (s₁.setTop (mkF m 0 #[.val (.int p1), .unset] [])) t → Steps p.tables e below (s₁.setTop (entryFrame m #[(.int p1)] 2)) t := fun t k => castTop (ef_3 m p1) k

  obtain ⟨fs, hr, hrun, hended, hW, hsame⟩ := X0.leave (v := some (.int (((1 : Int32) + (4 : Int32)) + ((((((p1 ^^^ (-1 : Int32)) &&& (p1 - (1 : Int32))).toUInt32 >>> ((4 : Int32) &&& 31).toUInt32).toInt32).toUInt32 >>> ((1 : Int32) &&& 31).toUInt32).toInt32)))) (fun h => by rw [Bd.returns] at h; cases h)
  refine ⟨_, _, pre0 _ ?_, hrun, hended, _, _, rfl, ?_, ⟨_, rfl⟩, hW, hsame.mono (by decide) (by decide)⟩
  · show Steps p.tables e below (s₁.setTop (mkF m 0 #[.val (.int p1), .unset] [])) _
    refine XS.iloadN X0.here hx rfl (hb hby d3_0) rfl ?_
    show Steps p.tables e below (s₁.setTop (mkF m 1 #[.val (.int p1), .unset] [(.int p1)])) _
    refine XS.iconst X0.here hx rfl (hb hby d3_1) ?_
    show Steps p.tables e below (s₁.setTop (mkF m 2 #[.val (.int p1), .unset] [(.int (-1 : Int32)), (.int p1)])) _
    refine XS.ixor X0.here hx rfl (hb hby d3_2) rfl ?_
    show Steps p.tables e below (s₁.setTop (mkF m 3 #[.val (.int p1), .unset] [(.int (p1 ^^^ (-1 : Int32)))])) _
    refine XS.iloadN X0.here hx rfl (hb hby d3_3) rfl ?_
    show Steps p.tables e below (s₁.setTop (mkF m 4 #[.val (.int p1), .unset] [(.int p1), (.int (p1 ^^^ (-1 : Int32)))])) _
    refine XS.iconst X0.here hx rfl (hb hby d3_4) ?_
    show Steps p.tables e below (s₁.setTop (mkF m 5 #[.val (.int p1), .unset] [(.int (1 : Int32)), (.int p1), (.int (p1 ^^^ (-1 : Int32)))])) _
    refine XS.isub X0.here hx rfl (hb hby d3_5) rfl ?_
    show Steps p.tables e below (s₁.setTop (mkF m 6 #[.val (.int p1), .unset] [(.int (p1 - (1 : Int32))), (.int (p1 ^^^ (-1 : Int32)))])) _
    refine XS.iand X0.here hx rfl (hb hby d3_6) rfl ?_
    show Steps p.tables e below (s₁.setTop (mkF m 7 #[.val (.int p1), .unset] [(.int ((p1 ^^^ (-1 : Int32)) &&& (p1 - (1 : Int32))))])) _
    refine XS.istoreN X0.here hx rfl (hb hby d3_7) rfl (l' := #[.val (.int ((p1 ^^^ (-1 : Int32)) &&& (p1 - (1 : Int32)))), .unset]) rfl ?_
    show Steps p.tables e below (s₁.setTop (mkF m 8 #[.val (.int ((p1 ^^^ (-1 : Int32)) &&& (p1 - (1 : Int32)))), .unset] [])) _
    refine XS.iloadN X0.here hx rfl (hb hby d3_8) rfl ?_
    show Steps p.tables e below (s₁.setTop (mkF m 9 #[.val (.int ((p1 ^^^ (-1 : Int32)) &&& (p1 - (1 : Int32)))), .unset] [(.int ((p1 ^^^ (-1 : Int32)) &&& (p1 - (1 : Int32))))])) _
    refine XS.ifYes X0.here hx rfl (pc0 := 9) (pc' := 17) rfl (hb hby d3_9) rfl ((if0 _ _).trans (tlt hc9).2.2.1) (by decide) (by decide) ?_
    show Steps p.tables e below (s₁.setTop (mkF m 17 #[.val (.int ((p1 ^^^ (-1 : Int32)) &&& (p1 - (1 : Int32)))), .unset] [])) _
    refine XS.iconst X0.here hx rfl (hb hby d3_17) ?_
    show Steps p.tables e below (s₁.setTop (mkF m 18 #[.val (.int ((p1 ^^^ (-1 : Int32)) &&& (p1 - (1 : Int32)))), .unset] [(.int (1 : Int32))])) _
    refine XS.istoreN X0.here hx rfl (hb hby d3_18) rfl (l' := #[.val (.int ((p1 ^^^ (-1 : Int32)) &&& (p1 - (1 : Int32)))), .val (.int (1 : Int32))]) rfl ?_
    show Steps p.tables e below (s₁.setTop (mkF m 19 #[.val (.int ((p1 ^^^ (-1 : Int32)) &&& (p1 - (1 : Int32)))), .val (.int (1 : Int32))] [])) _
    refine XS.iloadN X0.here hx rfl (hb hby d3_19) rfl ?_
    show Steps p.tables e below (s₁.setTop (mkF m 20 #[.val (.int ((p1 ^^^ (-1 : Int32)) &&& (p1 - (1 : Int32)))), .val (.int (1 : Int32))] [(.int ((p1 ^^^ (-1 : Int32)) &&& (p1 - (1 : Int32))))])) _
    refine X0.ldcwInt hx hown (mvT hZ (hw _ (List.mem_of_getElem? (i := 25) rfl))) (g := (mkF m 20 #[.val (.int ((p1 ^^^ (-1 : Int32)) &&& (p1 - (1 : Int32)))), .val (.int (1 : Int32))] [(.int ((p1 ^^^ (-1 : Int32)) &&& (p1 - (1 : Int32))))])) rfl (hb hby d3_20) _ ?_
    show Steps p.tables e below (s₁.setTop (mkF m 23 #[.val (.int ((p1 ^^^ (-1 : Int32)) &&& (p1 - (1 : Int32)))), .val (.int (1 : Int32))] [(.int (65536 : Int32)), (.int ((p1 ^^^ (-1 : Int32)) &&& (p1 - (1 : Int32))))])) _
    refine XS.icmpYes X0.here hx rfl (pc0 := 23) (pc' := 34) rfl (hb hby d3_23) rfl (flt hc23).2.2.2 (by decide) (by decide) ?_
    show Steps p.tables e below (s₁.setTop (mkF m 34 #[.val (.int ((p1 ^^^ (-1 : Int32)) &&& (p1 - (1 : Int32)))), .val (.int (1 : Int32))] [])) _
    refine XS.iloadN X0.here hx rfl (hb hby d3_34) rfl ?_
    show Steps p.tables e below (s₁.setTop (mkF m 35 #[.val (.int ((p1 ^^^ (-1 : Int32)) &&& (p1 - (1 : Int32)))), .val (.int (1 : Int32))] [(.int ((p1 ^^^ (-1 : Int32)) &&& (p1 - (1 : Int32))))])) _
    refine XS.sipush X0.here hx rfl (hb hby d3_35) ?_
    show Steps p.tables e below (s₁.setTop (mkF m 38 #[.val (.int ((p1 ^^^ (-1 : Int32)) &&& (p1 - (1 : Int32)))), .val (.int (1 : Int32))] [(.int (256 : Int32)), (.int ((p1 ^^^ (-1 : Int32)) &&& (p1 - (1 : Int32))))])) _
    refine XS.icmpYes X0.here hx rfl (pc0 := 38) (pc' := 49) rfl (hb hby d3_38) rfl (flt hc38).2.2.2 (by decide) (by decide) ?_
    show Steps p.tables e below (s₁.setTop (mkF m 49 #[.val (.int ((p1 ^^^ (-1 : Int32)) &&& (p1 - (1 : Int32)))), .val (.int (1 : Int32))] [])) _
    refine XS.iloadN X0.here hx rfl (hb hby d3_49) rfl ?_
    show Steps p.tables e below (s₁.setTop (mkF m 50 #[.val (.int ((p1 ^^^ (-1 : Int32)) &&& (p1 - (1 : Int32)))), .val (.int (1 : Int32))] [(.int ((p1 ^^^ (-1 : Int32)) &&& (p1 - (1 : Int32))))])) _
    refine XS.bipush X0.here hx rfl (hb hby d3_50) ?_
    show Steps p.tables e below (s₁.setTop (mkF m 52 #[.val (.int ((p1 ^^^ (-1 : Int32)) &&& (p1 - (1 : Int32)))), .val (.int (1 : Int32))] [(.int (16 : Int32)), (.int ((p1 ^^^ (-1 : Int32)) &&& (p1 - (1 : Int32))))])) _
    refine XS.icmpNo X0.here hx rfl (hb hby d3_52) rfl (tlt hc52).2.2.2 ?_
    show Steps p.tables e below (s₁.setTop (mkF m 55 #[.val (.int ((p1 ^^^ (-1 : Int32)) &&& (p1 - (1 : Int32)))), .val (.int (1 : Int32))] [])) _
    refine XS.iinc X0.here hx rfl (hb hby d3_55) rfl (l' := #[.val (.int ((p1 ^^^ (-1 : Int32)) &&& (p1 - (1 : Int32)))), .val (.int ((1 : Int32) + (4 : Int32)))]) rfl ?_
    show Steps p.tables e below (s₁.setTop (mkF m 58 #[.val (.int ((p1 ^^^ (-1 : Int32)) &&& (p1 - (1 : Int32)))), .val (.int ((1 : Int32) + (4 : Int32)))] [])) _
    refine XS.iloadN X0.here hx rfl (hb hby d3_58) rfl ?_
    show Steps p.tables e below (s₁.setTop (mkF m 59 #[.val (.int ((p1 ^^^ (-1 : Int32)) &&& (p1 - (1 : Int32)))), .val (.int ((1 : Int32) + (4 : Int32)))] [(.int ((p1 ^^^ (-1 : Int32)) &&& (p1 - (1 : Int32))))])) _
    refine XS.iconst X0.here hx rfl (hb hby d3_59) ?_
    show Steps p.tables e below (s₁.setTop (mkF m 60 #[.val (.int ((p1 ^^^ (-1 : Int32)) &&& (p1 - (1 : Int32)))), .val (.int ((1 : Int32) + (4 : Int32)))] [(.int (4 : Int32)), (.int ((p1 ^^^ (-1 : Int32)) &&& (p1 - (1 : Int32))))])) _
    refine XS.iushr X0.here hx rfl (hb hby d3_60) rfl ?_
    show Steps p.tables e below (s₁.setTop (mkF m 61 #[.val (.int ((p1 ^^^ (-1 : Int32)) &&& (p1 - (1 : Int32)))), .val (.int ((1 : Int32) + (4 : Int32)))] [(.int ((((p1 ^^^ (-1 : Int32)) &&& (p1 - (1 : Int32))).toUInt32 >>> ((4 : Int32) &&& 31).toUInt32).toInt32))])) _
    refine XS.istoreN X0.here hx rfl (hb hby d3_61) rfl (l' := #[.val (.int ((((p1 ^^^ (-1 : Int32)) &&& (p1 - (1 : Int32))).toUInt32 >>> ((4 : Int32) &&& 31).toUInt32).toInt32)), .val (.int ((1 : Int32) + (4 : Int32)))]) rfl ?_
    show Steps p.tables e below (s₁.setTop (mkF m 62 #[.val (.int ((((p1 ^^^ (-1 : Int32)) &&& (p1 - (1 : Int32))).toUInt32 >>> ((4 : Int32) &&& 31).toUInt32).toInt32)), .val (.int ((1 : Int32) + (4 : Int32)))] [])) _
    refine XS.iloadN X0.here hx rfl (hb hby d3_62) rfl ?_
    show Steps p.tables e below (s₁.setTop (mkF m 63 #[.val (.int ((((p1 ^^^ (-1 : Int32)) &&& (p1 - (1 : Int32))).toUInt32 >>> ((4 : Int32) &&& 31).toUInt32).toInt32)), .val (.int ((1 : Int32) + (4 : Int32)))] [(.int ((((p1 ^^^ (-1 : Int32)) &&& (p1 - (1 : Int32))).toUInt32 >>> ((4 : Int32) &&& 31).toUInt32).toInt32))])) _
    refine XS.iconst X0.here hx rfl (hb hby d3_63) ?_
    show Steps p.tables e below (s₁.setTop (mkF m 64 #[.val (.int ((((p1 ^^^ (-1 : Int32)) &&& (p1 - (1 : Int32))).toUInt32 >>> ((4 : Int32) &&& 31).toUInt32).toInt32)), .val (.int ((1 : Int32) + (4 : Int32)))] [(.int (4 : Int32)), (.int ((((p1 ^^^ (-1 : Int32)) &&& (p1 - (1 : Int32))).toUInt32 >>> ((4 : Int32) &&& 31).toUInt32).toInt32))])) _
    refine XS.icmpYes X0.here hx rfl (pc0 := 64) (pc' := 74) rfl (hb hby d3_64) rfl (flt hc64).2.2.2 (by decide) (by decide) ?_
    show Steps p.tables e below (s₁.setTop (mkF m 74 #[.val (.int ((((p1 ^^^ (-1 : Int32)) &&& (p1 - (1 : Int32))).toUInt32 >>> ((4 : Int32) &&& 31).toUInt32).toInt32)), .val (.int ((1 : Int32) + (4 : Int32)))] [])) _
    refine XS.iloadN X0.here hx rfl (hb hby d3_74) rfl ?_
    show Steps p.tables e below (s₁.setTop (mkF m 75 #[.val (.int ((((p1 ^^^ (-1 : Int32)) &&& (p1 - (1 : Int32))).toUInt32 >>> ((4 : Int32) &&& 31).toUInt32).toInt32)), .val (.int ((1 : Int32) + (4 : Int32)))] [(.int ((1 : Int32) + (4 : Int32)))])) _
    refine XS.iloadN X0.here hx rfl (hb hby d3_75) rfl ?_
    show Steps p.tables e below (s₁.setTop (mkF m 76 #[.val (.int ((((p1 ^^^ (-1 : Int32)) &&& (p1 - (1 : Int32))).toUInt32 >>> ((4 : Int32) &&& 31).toUInt32).toInt32)), .val (.int ((1 : Int32) + (4 : Int32)))] [(.int ((((p1 ^^^ (-1 : Int32)) &&& (p1 - (1 : Int32))).toUInt32 >>> ((4 : Int32) &&& 31).toUInt32).toInt32)), (.int ((1 : Int32) + (4 : Int32)))])) _
    refine XS.iconst X0.here hx rfl (hb hby d3_76) ?_
    show Steps p.tables e below (s₁.setTop (mkF m 77 #[.val (.int ((((p1 ^^^ (-1 : Int32)) &&& (p1 - (1 : Int32))).toUInt32 >>> ((4 : Int32) &&& 31).toUInt32).toInt32)), .val (.int ((1 : Int32) + (4 : Int32)))] [(.int (1 : Int32)), (.int ((((p1 ^^^ (-1 : Int32)) &&& (p1 - (1 : Int32))).toUInt32 >>> ((4 : Int32) &&& 31).toUInt32).toInt32)), (.int ((1 : Int32) + (4 : Int32)))])) _
    refine XS.iushr X0.here hx rfl (hb hby d3_77) rfl ?_
    show Steps p.tables e below (s₁.setTop (mkF m 78 #[.val (.int ((((p1 ^^^ (-1 : Int32)) &&& (p1 - (1 : Int32))).toUInt32 >>> ((4 : Int32) &&& 31).toUInt32).toInt32)), .val (.int ((1 : Int32) + (4 : Int32)))] [(.int ((((((p1 ^^^ (-1 : Int32)) &&& (p1 - (1 : Int32))).toUInt32 >>> ((4 : Int32) &&& 31).toUInt32).toInt32).toUInt32 >>> ((1 : Int32) &&& 31).toUInt32).toInt32)), (.int ((1 : Int32) + (4 : Int32)))])) _
    refine XS.iadd X0.here hx rfl (hb hby d3_78) rfl ?_
    show Steps p.tables e below (s₁.setTop (mkF m 79 #[.val (.int ((((p1 ^^^ (-1 : Int32)) &&& (p1 - (1 : Int32))).toUInt32 >>> ((4 : Int32) &&& 31).toUInt32).toInt32)), .val (.int ((1 : Int32) + (4 : Int32)))] [(.int (((1 : Int32) + (4 : Int32)) + ((((((p1 ^^^ (-1 : Int32)) &&& (p1 - (1 : Int32))).toUInt32 >>> ((4 : Int32) &&& 31).toUInt32).toInt32).toUInt32 >>> ((1 : Int32) &&& 31).toUInt32).toInt32)))])) _
    exact retI X0 hx Bd.returns (hb hby d3_79) hr
  · show Qi  h0 n0 _ s₁.heap _
    rw [e0]
    exact ⟨_, rfl, N0, rfl⟩
set_option maxRecDepth 65536 in
set_option maxHeartbeats 40000000 in
theorem rm3_tttff (l : Launch) (Z : State) (a0 : Array Value) (hw : ∀ d ∈ tables_1, d.before a0 Z = true) (ws : List Jvm.Cond) (p1 : Int32) (h0 : Heap) (n0 : Nat) (Z0 : n0 ≤ h0.size) (hc9 : (0 : Int32) < ((p1 ^^^ (-1 : Int32)) &&& (p1 - (1 : Int32)))) (hc23 : ¬ ((65536 : Int32) < ((p1 ^^^ (-1 : Int32)) &&& (p1 - (1 : Int32))))) (hc38 : ¬ ((256 : Int32) < ((p1 ^^^ (-1 : Int32)) &&& (p1 - (1 : Int32))))) (hc52 : (16 : Int32) < ((p1 ^^^ (-1 : Int32)) &&& (p1 - (1 : Int32)))) (hc64 : (4 : Int32) < ((((p1 ^^^ (-1 : Int32)) &&& (p1 - (1 : Int32))).toUInt32 >>> ((4 : Int32) &&& 31).toUInt32).toInt32)) :
    MetFree l (⟨"java/lang/Integer", "numberOfTrailingZeros", "(I)I"⟩ : MethodName) (head1 (Jvm.Cond.code (⟨"java/lang/Integer", "numberOfTrailingZeros", "(I)I"⟩ : MethodName) jdk_33_method_48_code 2 (some .int) :: ws) ({ frames := 0, cells := 0, slots := 0, locals := 0 } : Room)) (fun a U => a = #[(.int p1)] ∧ Z.Warmed39 U.vm ∧ U.heap = h0) (fun _ _ _ _ _ => True) (fun _ U o U' => ∃ v L, o = .returned v ∧ Qi  h0 n0 v U'.heap L ∧ FrameEnd U o U' L ({ frames := 0, cells := 0, slots := 0, locals := 0 } : Room).cells ({ frames := 0, cells := 0, slots := 0, locals := 0 } : Room).slots) := by
  refine MetFree.of_bodySF (plainFor_of_name pn_3) hisR ?_
  intro p e s m args below meth c s₁ Bd hml0 hP hK
  obtain ⟨rfl, hZ, hh⟩ := hP
  have hx := Bd.exec
  have hby := Bd.bytes
  have hml : c.maxLocals = 2 := hml0
  have hown : s.vm.findClass "java/lang/Integer" = some m.cls := findClass_of_methodNamed Bd.named
  have hnm := (name_of_methodNamed Bd.named Bd.method).1
  have X0 : Stand p l e ({ frames := 0, cells := 0, slots := 0, locals := 0 } : Room) s m #[(.int p1)] below meth c s₁ [] 0 0 := Stand.of_body Bd
  have e0 : s₁.heap = h0 := by rw [← hh, Bd.state]; rfl
  have N0 := Fr.nil n0
  have pre0 : ∀ t, Steps p.tables e below (s₁.setTop (mkF m 0 #[.val (.int p1), .unset] [])) t → Steps p.tables e below (s₁.setTop (entryFrame m #[(.int p1)] 2)) t := fun t k => castTop (ef_3 m p1) k

  obtain ⟨fs, hr, hrun, hended, hW, hsame⟩ := X0.leave (v := some (.int ((((1 : Int32) + (4 : Int32)) + (2 : Int32)) + ((((((((p1 ^^^ (-1 : Int32)) &&& (p1 - (1 : Int32))).toUInt32 >>> ((4 : Int32) &&& 31).toUInt32).toInt32).toUInt32 >>> ((2 : Int32) &&& 31).toUInt32).toInt32).toUInt32 >>> ((1 : Int32) &&& 31).toUInt32).toInt32)))) (fun h => by rw [Bd.returns] at h; cases h)
  refine ⟨_, _, pre0 _ ?_, hrun, hended, _, _, rfl, ?_, ⟨_, rfl⟩, hW, hsame.mono (by decide) (by decide)⟩
  · show Steps p.tables e below (s₁.setTop (mkF m 0 #[.val (.int p1), .unset] [])) _
    refine XS.iloadN X0.here hx rfl (hb hby d3_0) rfl ?_
    show Steps p.tables e below (s₁.setTop (mkF m 1 #[.val (.int p1), .unset] [(.int p1)])) _
    refine XS.iconst X0.here hx rfl (hb hby d3_1) ?_
    show Steps p.tables e below (s₁.setTop (mkF m 2 #[.val (.int p1), .unset] [(.int (-1 : Int32)), (.int p1)])) _
    refine XS.ixor X0.here hx rfl (hb hby d3_2) rfl ?_
    show Steps p.tables e below (s₁.setTop (mkF m 3 #[.val (.int p1), .unset] [(.int (p1 ^^^ (-1 : Int32)))])) _
    refine XS.iloadN X0.here hx rfl (hb hby d3_3) rfl ?_
    show Steps p.tables e below (s₁.setTop (mkF m 4 #[.val (.int p1), .unset] [(.int p1), (.int (p1 ^^^ (-1 : Int32)))])) _
    refine XS.iconst X0.here hx rfl (hb hby d3_4) ?_
    show Steps p.tables e below (s₁.setTop (mkF m 5 #[.val (.int p1), .unset] [(.int (1 : Int32)), (.int p1), (.int (p1 ^^^ (-1 : Int32)))])) _
    refine XS.isub X0.here hx rfl (hb hby d3_5) rfl ?_
    show Steps p.tables e below (s₁.setTop (mkF m 6 #[.val (.int p1), .unset] [(.int (p1 - (1 : Int32))), (.int (p1 ^^^ (-1 : Int32)))])) _
    refine XS.iand X0.here hx rfl (hb hby d3_6) rfl ?_
    show Steps p.tables e below (s₁.setTop (mkF m 7 #[.val (.int p1), .unset] [(.int ((p1 ^^^ (-1 : Int32)) &&& (p1 - (1 : Int32))))])) _
    refine XS.istoreN X0.here hx rfl (hb hby d3_7) rfl (l' := #[.val (.int ((p1 ^^^ (-1 : Int32)) &&& (p1 - (1 : Int32)))), .unset]) rfl ?_
    show Steps p.tables e below (s₁.setTop (mkF m 8 #[.val (.int ((p1 ^^^ (-1 : Int32)) &&& (p1 - (1 : Int32)))), .unset] [])) _
    refine XS.iloadN X0.here hx rfl (hb hby d3_8) rfl ?_
    show Steps p.tables e below (s₁.setTop (mkF m 9 #[.val (.int ((p1 ^^^ (-1 : Int32)) &&& (p1 - (1 : Int32)))), .unset] [(.int ((p1 ^^^ (-1 : Int32)) &&& (p1 - (1 : Int32))))])) _
    refine XS.ifYes X0.here hx rfl (pc0 := 9) (pc' := 17) rfl (hb hby d3_9) rfl ((if0 _ _).trans (tlt hc9).2.2.1) (by decide) (by decide) ?_
    show Steps p.tables e below (s₁.setTop (mkF m 17 #[.val (.int ((p1 ^^^ (-1 : Int32)) &&& (p1 - (1 : Int32)))), .unset] [])) _
    refine XS.iconst X0.here hx rfl (hb hby d3_17) ?_
    show Steps p.tables e below (s₁.setTop (mkF m 18 #[.val (.int ((p1 ^^^ (-1 : Int32)) &&& (p1 - (1 : Int32)))), .unset] [(.int (1 : Int32))])) _
    refine XS.istoreN X0.here hx rfl (hb hby d3_18) rfl (l' := #[.val (.int ((p1 ^^^ (-1 : Int32)) &&& (p1 - (1 : Int32)))), .val (.int (1 : Int32))]) rfl ?_
    show Steps p.tables e below (s₁.setTop (mkF m 19 #[.val (.int ((p1 ^^^ (-1 : Int32)) &&& (p1 - (1 : Int32)))), .val (.int (1 : Int32))] [])) _
    refine XS.iloadN X0.here hx rfl (hb hby d3_19) rfl ?_
    show Steps p.tables e below (s₁.setTop (mkF m 20 #[.val (.int ((p1 ^^^ (-1 : Int32)) &&& (p1 - (1 : Int32)))), .val (.int (1 : Int32))] [(.int ((p1 ^^^ (-1 : Int32)) &&& (p1 - (1 : Int32))))])) _
    refine X0.ldcwInt hx hown (mvT hZ (hw _ (List.mem_of_getElem? (i := 25) rfl))) (g := (mkF m 20 #[.val (.int ((p1 ^^^ (-1 : Int32)) &&& (p1 - (1 : Int32)))), .val (.int (1 : Int32))] [(.int ((p1 ^^^ (-1 : Int32)) &&& (p1 - (1 : Int32))))])) rfl (hb hby d3_20) _ ?_
    show Steps p.tables e below (s₁.setTop (mkF m 23 #[.val (.int ((p1 ^^^ (-1 : Int32)) &&& (p1 - (1 : Int32)))), .val (.int (1 : Int32))] [(.int (65536 : Int32)), (.int ((p1 ^^^ (-1 : Int32)) &&& (p1 - (1 : Int32))))])) _
    refine XS.icmpYes X0.here hx rfl (pc0 := 23) (pc' := 34) rfl (hb hby d3_23) rfl (flt hc23).2.2.2 (by decide) (by decide) ?_
    show Steps p.tables e below (s₁.setTop (mkF m 34 #[.val (.int ((p1 ^^^ (-1 : Int32)) &&& (p1 - (1 : Int32)))), .val (.int (1 : Int32))] [])) _
    refine XS.iloadN X0.here hx rfl (hb hby d3_34) rfl ?_
    show Steps p.tables e below (s₁.setTop (mkF m 35 #[.val (.int ((p1 ^^^ (-1 : Int32)) &&& (p1 - (1 : Int32)))), .val (.int (1 : Int32))] [(.int ((p1 ^^^ (-1 : Int32)) &&& (p1 - (1 : Int32))))])) _
    refine XS.sipush X0.here hx rfl (hb hby d3_35) ?_
    show Steps p.tables e below (s₁.setTop (mkF m 38 #[.val (.int ((p1 ^^^ (-1 : Int32)) &&& (p1 - (1 : Int32)))), .val (.int (1 : Int32))] [(.int (256 : Int32)), (.int ((p1 ^^^ (-1 : Int32)) &&& (p1 - (1 : Int32))))])) _
    refine XS.icmpYes X0.here hx rfl (pc0 := 38) (pc' := 49) rfl (hb hby d3_38) rfl (flt hc38).2.2.2 (by decide) (by decide) ?_
    show Steps p.tables e below (s₁.setTop (mkF m 49 #[.val (.int ((p1 ^^^ (-1 : Int32)) &&& (p1 - (1 : Int32)))), .val (.int (1 : Int32))] [])) _
    refine XS.iloadN X0.here hx rfl (hb hby d3_49) rfl ?_
    show Steps p.tables e below (s₁.setTop (mkF m 50 #[.val (.int ((p1 ^^^ (-1 : Int32)) &&& (p1 - (1 : Int32)))), .val (.int (1 : Int32))] [(.int ((p1 ^^^ (-1 : Int32)) &&& (p1 - (1 : Int32))))])) _
    refine XS.bipush X0.here hx rfl (hb hby d3_50) ?_
    show Steps p.tables e below (s₁.setTop (mkF m 52 #[.val (.int ((p1 ^^^ (-1 : Int32)) &&& (p1 - (1 : Int32)))), .val (.int (1 : Int32))] [(.int (16 : Int32)), (.int ((p1 ^^^ (-1 : Int32)) &&& (p1 - (1 : Int32))))])) _
    refine XS.icmpNo X0.here hx rfl (hb hby d3_52) rfl (tlt hc52).2.2.2 ?_
    show Steps p.tables e below (s₁.setTop (mkF m 55 #[.val (.int ((p1 ^^^ (-1 : Int32)) &&& (p1 - (1 : Int32)))), .val (.int (1 : Int32))] [])) _
    refine XS.iinc X0.here hx rfl (hb hby d3_55) rfl (l' := #[.val (.int ((p1 ^^^ (-1 : Int32)) &&& (p1 - (1 : Int32)))), .val (.int ((1 : Int32) + (4 : Int32)))]) rfl ?_
    show Steps p.tables e below (s₁.setTop (mkF m 58 #[.val (.int ((p1 ^^^ (-1 : Int32)) &&& (p1 - (1 : Int32)))), .val (.int ((1 : Int32) + (4 : Int32)))] [])) _
    refine XS.iloadN X0.here hx rfl (hb hby d3_58) rfl ?_
    show Steps p.tables e below (s₁.setTop (mkF m 59 #[.val (.int ((p1 ^^^ (-1 : Int32)) &&& (p1 - (1 : Int32)))), .val (.int ((1 : Int32) + (4 : Int32)))] [(.int ((p1 ^^^ (-1 : Int32)) &&& (p1 - (1 : Int32))))])) _
    refine XS.iconst X0.here hx rfl (hb hby d3_59) ?_
    show Steps p.tables e below (s₁.setTop (mkF m 60 #[.val (.int ((p1 ^^^ (-1 : Int32)) &&& (p1 - (1 : Int32)))), .val (.int ((1 : Int32) + (4 : Int32)))] [(.int (4 : Int32)), (.int ((p1 ^^^ (-1 : Int32)) &&& (p1 - (1 : Int32))))])) _
    refine XS.iushr X0.here hx rfl (hb hby d3_60) rfl ?_
    show Steps p.tables e below (s₁.setTop (mkF m 61 #[.val (.int ((p1 ^^^ (-1 : Int32)) &&& (p1 - (1 : Int32)))), .val (.int ((1 : Int32) + (4 : Int32)))] [(.int ((((p1 ^^^ (-1 : Int32)) &&& (p1 - (1 : Int32))).toUInt32 >>> ((4 : Int32) &&& 31).toUInt32).toInt32))])) _
    refine XS.istoreN X0.here hx rfl (hb hby d3_61) rfl (l' := #[.val (.int ((((p1 ^^^ (-1 : Int32)) &&& (p1 - (1 : Int32))).toUInt32 >>> ((4 : Int32) &&& 31).toUInt32).toInt32)), .val (.int ((1 : Int32) + (4 : Int32)))]) rfl ?_
    show Steps p.tables e below (s₁.setTop (mkF m 62 #[.val (.int ((((p1 ^^^ (-1 : Int32)) &&& (p1 - (1 : Int32))).toUInt32 >>> ((4 : Int32) &&& 31).toUInt32).toInt32)), .val (.int ((1 : Int32) + (4 : Int32)))] [])) _
    refine XS.iloadN X0.here hx rfl (hb hby d3_62) rfl ?_
    show Steps p.tables e below (s₁.setTop (mkF m 63 #[.val (.int ((((p1 ^^^ (-1 : Int32)) &&& (p1 - (1 : Int32))).toUInt32 >>> ((4 : Int32) &&& 31).toUInt32).toInt32)), .val (.int ((1 : Int32) + (4 : Int32)))] [(.int ((((p1 ^^^ (-1 : Int32)) &&& (p1 - (1 : Int32))).toUInt32 >>> ((4 : Int32) &&& 31).toUInt32).toInt32))])) _
    refine XS.iconst X0.here hx rfl (hb hby d3_63) ?_
    show Steps p.tables e below (s₁.setTop (mkF m 64 #[.val (.int ((((p1 ^^^ (-1 : Int32)) &&& (p1 - (1 : Int32))).toUInt32 >>> ((4 : Int32) &&& 31).toUInt32).toInt32)), .val (.int ((1 : Int32) + (4 : Int32)))] [(.int (4 : Int32)), (.int ((((p1 ^^^ (-1 : Int32)) &&& (p1 - (1 : Int32))).toUInt32 >>> ((4 : Int32) &&& 31).toUInt32).toInt32))])) _
    refine XS.icmpNo X0.here hx rfl (hb hby d3_64) rfl (tlt hc64).2.2.2 ?_
    show Steps p.tables e below (s₁.setTop (mkF m 67 #[.val (.int ((((p1 ^^^ (-1 : Int32)) &&& (p1 - (1 : Int32))).toUInt32 >>> ((4 : Int32) &&& 31).toUInt32).toInt32)), .val (.int ((1 : Int32) + (4 : Int32)))] [])) _
    refine XS.iinc X0.here hx rfl (hb hby d3_67) rfl (l' := #[.val (.int ((((p1 ^^^ (-1 : Int32)) &&& (p1 - (1 : Int32))).toUInt32 >>> ((4 : Int32) &&& 31).toUInt32).toInt32)), .val (.int (((1 : Int32) + (4 : Int32)) + (2 : Int32)))]) rfl ?_
    show Steps p.tables e below (s₁.setTop (mkF m 70 #[.val (.int ((((p1 ^^^ (-1 : Int32)) &&& (p1 - (1 : Int32))).toUInt32 >>> ((4 : Int32) &&& 31).toUInt32).toInt32)), .val (.int (((1 : Int32) + (4 : Int32)) + (2 : Int32)))] [])) _
    refine XS.iloadN X0.here hx rfl (hb hby d3_70) rfl ?_
    show Steps p.tables e below (s₁.setTop (mkF m 71 #[.val (.int ((((p1 ^^^ (-1 : Int32)) &&& (p1 - (1 : Int32))).toUInt32 >>> ((4 : Int32) &&& 31).toUInt32).toInt32)), .val (.int (((1 : Int32) + (4 : Int32)) + (2 : Int32)))] [(.int ((((p1 ^^^ (-1 : Int32)) &&& (p1 - (1 : Int32))).toUInt32 >>> ((4 : Int32) &&& 31).toUInt32).toInt32))])) _
    refine XS.iconst X0.here hx rfl (hb hby d3_71) ?_
    show Steps p.tables e below (s₁.setTop (mkF m 72 #[.val (.int ((((p1 ^^^ (-1 : Int32)) &&& (p1 - (1 : Int32))).toUInt32 >>> ((4 : Int32) &&& 31).toUInt32).toInt32)), .val (.int (((1 : Int32) + (4 : Int32)) + (2 : Int32)))] [(.int (2 : Int32)), (.int ((((p1 ^^^ (-1 : Int32)) &&& (p1 - (1 : Int32))).toUInt32 >>> ((4 : Int32) &&& 31).toUInt32).toInt32))])) _
    refine XS.iushr X0.here hx rfl (hb hby d3_72) rfl ?_
    show Steps p.tables e below (s₁.setTop (mkF m 73 #[.val (.int ((((p1 ^^^ (-1 : Int32)) &&& (p1 - (1 : Int32))).toUInt32 >>> ((4 : Int32) &&& 31).toUInt32).toInt32)), .val (.int (((1 : Int32) + (4 : Int32)) + (2 : Int32)))] [(.int ((((((p1 ^^^ (-1 : Int32)) &&& (p1 - (1 : Int32))).toUInt32 >>> ((4 : Int32) &&& 31).toUInt32).toInt32).toUInt32 >>> ((2 : Int32) &&& 31).toUInt32).toInt32))])) _
    refine XS.istoreN X0.here hx rfl (hb hby d3_73) rfl (l' := #[.val (.int ((((((p1 ^^^ (-1 : Int32)) &&& (p1 - (1 : Int32))).toUInt32 >>> ((4 : Int32) &&& 31).toUInt32).toInt32).toUInt32 >>> ((2 : Int32) &&& 31).toUInt32).toInt32)), .val (.int (((1 : Int32) + (4 : Int32)) + (2 : Int32)))]) rfl ?_
    show Steps p.tables e below (s₁.setTop (mkF m 74 #[.val (.int ((((((p1 ^^^ (-1 : Int32)) &&& (p1 - (1 : Int32))).toUInt32 >>> ((4 : Int32) &&& 31).toUInt32).toInt32).toUInt32 >>> ((2 : Int32) &&& 31).toUInt32).toInt32)), .val (.int (((1 : Int32) + (4 : Int32)) + (2 : Int32)))] [])) _
    refine XS.iloadN X0.here hx rfl (hb hby d3_74) rfl ?_
    show Steps p.tables e below (s₁.setTop (mkF m 75 #[.val (.int ((((((p1 ^^^ (-1 : Int32)) &&& (p1 - (1 : Int32))).toUInt32 >>> ((4 : Int32) &&& 31).toUInt32).toInt32).toUInt32 >>> ((2 : Int32) &&& 31).toUInt32).toInt32)), .val (.int (((1 : Int32) + (4 : Int32)) + (2 : Int32)))] [(.int (((1 : Int32) + (4 : Int32)) + (2 : Int32)))])) _
    refine XS.iloadN X0.here hx rfl (hb hby d3_75) rfl ?_
    show Steps p.tables e below (s₁.setTop (mkF m 76 #[.val (.int ((((((p1 ^^^ (-1 : Int32)) &&& (p1 - (1 : Int32))).toUInt32 >>> ((4 : Int32) &&& 31).toUInt32).toInt32).toUInt32 >>> ((2 : Int32) &&& 31).toUInt32).toInt32)), .val (.int (((1 : Int32) + (4 : Int32)) + (2 : Int32)))] [(.int ((((((p1 ^^^ (-1 : Int32)) &&& (p1 - (1 : Int32))).toUInt32 >>> ((4 : Int32) &&& 31).toUInt32).toInt32).toUInt32 >>> ((2 : Int32) &&& 31).toUInt32).toInt32)), (.int (((1 : Int32) + (4 : Int32)) + (2 : Int32)))])) _
    refine XS.iconst X0.here hx rfl (hb hby d3_76) ?_
    show Steps p.tables e below (s₁.setTop (mkF m 77 #[.val (.int ((((((p1 ^^^ (-1 : Int32)) &&& (p1 - (1 : Int32))).toUInt32 >>> ((4 : Int32) &&& 31).toUInt32).toInt32).toUInt32 >>> ((2 : Int32) &&& 31).toUInt32).toInt32)), .val (.int (((1 : Int32) + (4 : Int32)) + (2 : Int32)))] [(.int (1 : Int32)), (.int ((((((p1 ^^^ (-1 : Int32)) &&& (p1 - (1 : Int32))).toUInt32 >>> ((4 : Int32) &&& 31).toUInt32).toInt32).toUInt32 >>> ((2 : Int32) &&& 31).toUInt32).toInt32)), (.int (((1 : Int32) + (4 : Int32)) + (2 : Int32)))])) _
    refine XS.iushr X0.here hx rfl (hb hby d3_77) rfl ?_
    show Steps p.tables e below (s₁.setTop (mkF m 78 #[.val (.int ((((((p1 ^^^ (-1 : Int32)) &&& (p1 - (1 : Int32))).toUInt32 >>> ((4 : Int32) &&& 31).toUInt32).toInt32).toUInt32 >>> ((2 : Int32) &&& 31).toUInt32).toInt32)), .val (.int (((1 : Int32) + (4 : Int32)) + (2 : Int32)))] [(.int ((((((((p1 ^^^ (-1 : Int32)) &&& (p1 - (1 : Int32))).toUInt32 >>> ((4 : Int32) &&& 31).toUInt32).toInt32).toUInt32 >>> ((2 : Int32) &&& 31).toUInt32).toInt32).toUInt32 >>> ((1 : Int32) &&& 31).toUInt32).toInt32)), (.int (((1 : Int32) + (4 : Int32)) + (2 : Int32)))])) _
    refine XS.iadd X0.here hx rfl (hb hby d3_78) rfl ?_
    show Steps p.tables e below (s₁.setTop (mkF m 79 #[.val (.int ((((((p1 ^^^ (-1 : Int32)) &&& (p1 - (1 : Int32))).toUInt32 >>> ((4 : Int32) &&& 31).toUInt32).toInt32).toUInt32 >>> ((2 : Int32) &&& 31).toUInt32).toInt32)), .val (.int (((1 : Int32) + (4 : Int32)) + (2 : Int32)))] [(.int ((((1 : Int32) + (4 : Int32)) + (2 : Int32)) + ((((((((p1 ^^^ (-1 : Int32)) &&& (p1 - (1 : Int32))).toUInt32 >>> ((4 : Int32) &&& 31).toUInt32).toInt32).toUInt32 >>> ((2 : Int32) &&& 31).toUInt32).toInt32).toUInt32 >>> ((1 : Int32) &&& 31).toUInt32).toInt32)))])) _
    exact retI X0 hx Bd.returns (hb hby d3_79) hr
  · show Qi  h0 n0 _ s₁.heap _
    rw [e0]
    exact ⟨_, rfl, N0, rfl⟩
theorem d3_41 : decode jdk_33_method_48_code 41 = .ok (.iinc 1 8, 3) := by decide +kernel
theorem d3_44 : decode jdk_33_method_48_code 44 = .ok (.iload_n 0, 1) := by decide +kernel
theorem d3_45 : decode jdk_33_method_48_code 45 = .ok (.bipush 8, 2) := by decide +kernel
theorem d3_47 : decode jdk_33_method_48_code 47 = .ok (.iushr, 1) := by decide +kernel
theorem d3_48 : decode jdk_33_method_48_code 48 = .ok (.istore_n 0, 1) := by decide +kernel
set_option maxRecDepth 65536 in
set_option maxHeartbeats 40000000 in
theorem rm3_ttftt (l : Launch) (Z : State) (a0 : Array Value) (hw : ∀ d ∈ tables_1, d.before a0 Z = true) (ws : List Jvm.Cond) (p1 : Int32) (h0 : Heap) (n0 : Nat) (Z0 : n0 ≤ h0.size) (hc9 : (0 : Int32) < ((p1 ^^^ (-1 : Int32)) &&& (p1 - (1 : Int32)))) (hc23 : ¬ ((65536 : Int32) < ((p1 ^^^ (-1 : Int32)) &&& (p1 - (1 : Int32))))) (hc38 : (256 : Int32) < ((p1 ^^^ (-1 : Int32)) &&& (p1 - (1 : Int32)))) (hc52 : ¬ ((16 : Int32) < ((((p1 ^^^ (-1 : Int32)) &&& (p1 - (1 : Int32))).toUInt32 >>> ((8 : Int32) &&& 31).toUInt32).toInt32))) (hc64 : ¬ ((4 : Int32) < ((((p1 ^^^ (-1 : Int32)) &&& (p1 - (1 : Int32))).toUInt32 >>> ((8 : Int32) &&& 31).toUInt32).toInt32))) :
    MetFree l (⟨"java/lang/Integer", "numberOfTrailingZeros", "(I)I"⟩ : MethodName) (head1 (Jvm.Cond.code (⟨"java/lang/Integer", "numberOfTrailingZeros", "(I)I"⟩ : MethodName) jdk_33_method_48_code 2 (some .int) :: ws) ({ frames := 0, cells := 0, slots := 0, locals := 0 } : Room)) (fun a U => a = #[(.int p1)] ∧ Z.Warmed39 U.vm ∧ U.heap = h0) (fun _ _ _ _ _ => True) (fun _ U o U' => ∃ v L, o = .returned v ∧ Qi  h0 n0 v U'.heap L ∧ FrameEnd U o U' L ({ frames := 0, cells := 0, slots := 0, locals := 0 } : Room).cells ({ frames := 0, cells := 0, slots := 0, locals := 0 } : Room).slots) := by
  refine MetFree.of_bodySF (plainFor_of_name pn_3) hisR ?_
  intro p e s m args below meth c s₁ Bd hml0 hP hK
  obtain ⟨rfl, hZ, hh⟩ := hP
  have hx := Bd.exec
  have hby := Bd.bytes
  have hml : c.maxLocals = 2 := hml0
  have hown : s.vm.findClass "java/lang/Integer" = some m.cls := findClass_of_methodNamed Bd.named
  have hnm := (name_of_methodNamed Bd.named Bd.method).1
  have X0 : Stand p l e ({ frames := 0, cells := 0, slots := 0, locals := 0 } : Room) s m #[(.int p1)] below meth c s₁ [] 0 0 := Stand.of_body Bd
  have e0 : s₁.heap = h0 := by rw [← hh, Bd.state]; rfl
  have N0 := Fr.nil n0
  have pre0 : ∀ t, Steps p.tables e below (s₁.setTop (mkF m 0 #[.val (.int p1), .unset] [])) t → Steps p.tables e below (s₁.setTop (entryFrame m #[(.int p1)] 2)) t := fun t k => castTop (ef_3 m p1) k

  obtain ⟨fs, hr, hrun, hended, hW, hsame⟩ := X0.leave (v := some (.int (((1 : Int32) + (8 : Int32)) + ((((((p1 ^^^ (-1 : Int32)) &&& (p1 - (1 : Int32))).toUInt32 >>> ((8 : Int32) &&& 31).toUInt32).toInt32).toUInt32 >>> ((1 : Int32) &&& 31).toUInt32).toInt32)))) (fun h => by rw [Bd.returns] at h; cases h)
  refine ⟨_, _, pre0 _ ?_, hrun, hended, _, _, rfl, ?_, ⟨_, rfl⟩, hW, hsame.mono (by decide) (by decide)⟩
  · show Steps p.tables e below (s₁.setTop (mkF m 0 #[.val (.int p1), .unset] [])) _
    refine XS.iloadN X0.here hx rfl (hb hby d3_0) rfl ?_
    show Steps p.tables e below (s₁.setTop (mkF m 1 #[.val (.int p1), .unset] [(.int p1)])) _
    refine XS.iconst X0.here hx rfl (hb hby d3_1) ?_
    show Steps p.tables e below (s₁.setTop (mkF m 2 #[.val (.int p1), .unset] [(.int (-1 : Int32)), (.int p1)])) _
    refine XS.ixor X0.here hx rfl (hb hby d3_2) rfl ?_
    show Steps p.tables e below (s₁.setTop (mkF m 3 #[.val (.int p1), .unset] [(.int (p1 ^^^ (-1 : Int32)))])) _
    refine XS.iloadN X0.here hx rfl (hb hby d3_3) rfl ?_
    show Steps p.tables e below (s₁.setTop (mkF m 4 #[.val (.int p1), .unset] [(.int p1), (.int (p1 ^^^ (-1 : Int32)))])) _
    refine XS.iconst X0.here hx rfl (hb hby d3_4) ?_
    show Steps p.tables e below (s₁.setTop (mkF m 5 #[.val (.int p1), .unset] [(.int (1 : Int32)), (.int p1), (.int (p1 ^^^ (-1 : Int32)))])) _
    refine XS.isub X0.here hx rfl (hb hby d3_5) rfl ?_
    show Steps p.tables e below (s₁.setTop (mkF m 6 #[.val (.int p1), .unset] [(.int (p1 - (1 : Int32))), (.int (p1 ^^^ (-1 : Int32)))])) _
    refine XS.iand X0.here hx rfl (hb hby d3_6) rfl ?_
    show Steps p.tables e below (s₁.setTop (mkF m 7 #[.val (.int p1), .unset] [(.int ((p1 ^^^ (-1 : Int32)) &&& (p1 - (1 : Int32))))])) _
    refine XS.istoreN X0.here hx rfl (hb hby d3_7) rfl (l' := #[.val (.int ((p1 ^^^ (-1 : Int32)) &&& (p1 - (1 : Int32)))), .unset]) rfl ?_
    show Steps p.tables e below (s₁.setTop (mkF m 8 #[.val (.int ((p1 ^^^ (-1 : Int32)) &&& (p1 - (1 : Int32)))), .unset] [])) _
    refine XS.iloadN X0.here hx rfl (hb hby d3_8) rfl ?_
    show Steps p.tables e below (s₁.setTop (mkF m 9 #[.val (.int ((p1 ^^^ (-1 : Int32)) &&& (p1 - (1 : Int32)))), .unset] [(.int ((p1 ^^^ (-1 : Int32)) &&& (p1 - (1 : Int32))))])) _
    refine XS.ifYes X0.here hx rfl (pc0 := 9) (pc' := 17) rfl (hb hby d3_9) rfl ((if0 _ _).trans (tlt hc9).2.2.1) (by decide) (by decide) ?_
    show Steps p.tables e below (s₁.setTop (mkF m 17 #[.val (.int ((p1 ^^^ (-1 : Int32)) &&& (p1 - (1 : Int32)))), .unset] [])) _
    refine XS.iconst X0.here hx rfl (hb hby d3_17) ?_
    show Steps p.tables e below (s₁.setTop (mkF m 18 #[.val (.int ((p1 ^^^ (-1 : Int32)) &&& (p1 - (1 : Int32)))), .unset] [(.int (1 : Int32))])) _
    refine XS.istoreN X0.here hx rfl (hb hby d3_18) rfl (l' := #[.val (.int ((p1 ^^^ (-1 : Int32)) &&& (p1 - (1 : Int32)))), .val (.int (1 : Int32))]) rfl ?_
    show Steps p.tables e below (s₁.setTop (mkF m 19 #[.val (.int ((p1 ^^^ (-1 : Int32)) &&& (p1 - (1 : Int32)))), .val (.int (1 : Int32))] [])) _
    refine XS.iloadN X0.here hx rfl (hb hby d3_19) rfl ?_
    show Steps p.tables e below (s₁.setTop (mkF m 20 #[.val (.int ((p1 ^^^ (-1 : Int32)) &&& (p1 - (1 : Int32)))), .val (.int (1 : Int32))] [(.int ((p1 ^^^ (-1 : Int32)) &&& (p1 - (1 : Int32))))])) _
    refine X0.ldcwInt hx hown (mvT hZ (hw _ (List.mem_of_getElem? (i := 25) rfl))) (g := (mkF m 20 #[.val (.int ((p1 ^^^ (-1 : Int32)) &&& (p1 - (1 : Int32)))), .val (.int (1 : Int32))] [(.int ((p1 ^^^ (-1 : Int32)) &&& (p1 - (1 : Int32))))])) rfl (hb hby d3_20) _ ?_
    show Steps p.tables e below (s₁.setTop (mkF m 23 #[.val (.int ((p1 ^^^ (-1 : Int32)) &&& (p1 - (1 : Int32)))), .val (.int (1 : Int32))] [(.int (65536 : Int32)), (.int ((p1 ^^^ (-1 : Int32)) &&& (p1 - (1 : Int32))))])) _
    refine XS.icmpYes X0.here hx rfl (pc0 := 23) (pc' := 34) rfl (hb hby d3_23) rfl (flt hc23).2.2.2 (by decide) (by decide) ?_
    show Steps p.tables e below (s₁.setTop (mkF m 34 #[.val (.int ((p1 ^^^ (-1 : Int32)) &&& (p1 - (1 : Int32)))), .val (.int (1 : Int32))] [])) _
    refine XS.iloadN X0.here hx rfl (hb hby d3_34) rfl ?_
    show Steps p.tables e below (s₁.setTop (mkF m 35 #[.val (.int ((p1 ^^^ (-1 : Int32)) &&& (p1 - (1 : Int32)))), .val (.int (1 : Int32))] [(.int ((p1 ^^^ (-1 : Int32)) &&& (p1 - (1 : Int32))))])) _
    refine XS.sipush X0.here hx rfl (hb hby d3_35) ?_
    show Steps p.tables e below (s₁.setTop (mkF m 38 #[.val (.int ((p1 ^^^ (-1 : Int32)) &&& (p1 - (1 : Int32)))), .val (.int (1 : Int32))] [(.int (256 : Int32)), (.int ((p1 ^^^ (-1 : Int32)) &&& (p1 - (1 : Int32))))])) _
    refine XS.icmpNo X0.here hx rfl (hb hby d3_38) rfl (tlt hc38).2.2.2 ?_
    show Steps p.tables e below (s₁.setTop (mkF m 41 #[.val (.int ((p1 ^^^ (-1 : Int32)) &&& (p1 - (1 : Int32)))), .val (.int (1 : Int32))] [])) _
    refine XS.iinc X0.here hx rfl (hb hby d3_41) rfl (l' := #[.val (.int ((p1 ^^^ (-1 : Int32)) &&& (p1 - (1 : Int32)))), .val (.int ((1 : Int32) + (8 : Int32)))]) rfl ?_
    show Steps p.tables e below (s₁.setTop (mkF m 44 #[.val (.int ((p1 ^^^ (-1 : Int32)) &&& (p1 - (1 : Int32)))), .val (.int ((1 : Int32) + (8 : Int32)))] [])) _
    refine XS.iloadN X0.here hx rfl (hb hby d3_44) rfl ?_
    show Steps p.tables e below (s₁.setTop (mkF m 45 #[.val (.int ((p1 ^^^ (-1 : Int32)) &&& (p1 - (1 : Int32)))), .val (.int ((1 : Int32) + (8 : Int32)))] [(.int ((p1 ^^^ (-1 : Int32)) &&& (p1 - (1 : Int32))))])) _
    refine XS.bipush X0.here hx rfl (hb hby d3_45) ?_
    show Steps p.tables e below (s₁.setTop (mkF m 47 #[.val (.int ((p1 ^^^ (-1 : Int32)) &&& (p1 - (1 : Int32)))), .val (.int ((1 : Int32) + (8 : Int32)))] [(.int (8 : Int32)), (.int ((p1 ^^^ (-1 : Int32)) &&& (p1 - (1 : Int32))))])) _
    refine XS.iushr X0.here hx rfl (hb hby d3_47) rfl ?_
    show Steps p.tables e below (s₁.setTop (mkF m 48 #[.val (.int ((p1 ^^^ (-1 : Int32)) &&& (p1 - (1 : Int32)))), .val (.int ((1 : Int32) + (8 : Int32)))] [(.int ((((p1 ^^^ (-1 : Int32)) &&& (p1 - (1 : Int32))).toUInt32 >>> ((8 : Int32) &&& 31).toUInt32).toInt32))])) _
    refine XS.istoreN X0.here hx rfl (hb hby d3_48) rfl (l' := #[.val (.int ((((p1 ^^^ (-1 : Int32)) &&& (p1 - (1 : Int32))).toUInt32 >>> ((8 : Int32) &&& 31).toUInt32).toInt32)), .val (.int ((1 : Int32) + (8 : Int32)))]) rfl ?_
    show Steps p.tables e below (s₁.setTop (mkF m 49 #[.val (.int ((((p1 ^^^ (-1 : Int32)) &&& (p1 - (1 : Int32))).toUInt32 >>> ((8 : Int32) &&& 31).toUInt32).toInt32)), .val (.int ((1 : Int32) + (8 : Int32)))] [])) _
    refine XS.iloadN X0.here hx rfl (hb hby d3_49) rfl ?_
    show Steps p.tables e below (s₁.setTop (mkF m 50 #[.val (.int ((((p1 ^^^ (-1 : Int32)) &&& (p1 - (1 : Int32))).toUInt32 >>> ((8 : Int32) &&& 31).toUInt32).toInt32)), .val (.int ((1 : Int32) + (8 : Int32)))] [(.int ((((p1 ^^^ (-1 : Int32)) &&& (p1 - (1 : Int32))).toUInt32 >>> ((8 : Int32) &&& 31).toUInt32).toInt32))])) _
    refine XS.bipush X0.here hx rfl (hb hby d3_50) ?_
    show Steps p.tables e below (s₁.setTop (mkF m 52 #[.val (.int ((((p1 ^^^ (-1 : Int32)) &&& (p1 - (1 : Int32))).toUInt32 >>> ((8 : Int32) &&& 31).toUInt32).toInt32)), .val (.int ((1 : Int32) + (8 : Int32)))] [(.int (16 : Int32)), (.int ((((p1 ^^^ (-1 : Int32)) &&& (p1 - (1 : Int32))).toUInt32 >>> ((8 : Int32) &&& 31).toUInt32).toInt32))])) _
    refine XS.icmpYes X0.here hx rfl (pc0 := 52) (pc' := 62) rfl (hb hby d3_52) rfl (flt hc52).2.2.2 (by decide) (by decide) ?_
    show Steps p.tables e below (s₁.setTop (mkF m 62 #[.val (.int ((((p1 ^^^ (-1 : Int32)) &&& (p1 - (1 : Int32))).toUInt32 >>> ((8 : Int32) &&& 31).toUInt32).toInt32)), .val (.int ((1 : Int32) + (8 : Int32)))] [])) _
    refine XS.iloadN X0.here hx rfl (hb hby d3_62) rfl ?_
    show Steps p.tables e below (s₁.setTop (mkF m 63 #[.val (.int ((((p1 ^^^ (-1 : Int32)) &&& (p1 - (1 : Int32))).toUInt32 >>> ((8 : Int32) &&& 31).toUInt32).toInt32)), .val (.int ((1 : Int32) + (8 : Int32)))] [(.int ((((p1 ^^^ (-1 : Int32)) &&& (p1 - (1 : Int32))).toUInt32 >>> ((8 : Int32) &&& 31).toUInt32).toInt32))])) _
    refine XS.iconst X0.here hx rfl (hb hby d3_63) ?_
    show Steps p.tables e below (s₁.setTop (mkF m 64 #[.val (.int ((((p1 ^^^ (-1 : Int32)) &&& (p1 - (1 : Int32))).toUInt32 >>> ((8 : Int32) &&& 31).toUInt32).toInt32)), .val (.int ((1 : Int32) + (8 : Int32)))] [(.int (4 : Int32)), (.int ((((p1 ^^^ (-1 : Int32)) &&& (p1 - (1 : Int32))).toUInt32 >>> ((8 : Int32) &&& 31).toUInt32).toInt32))])) _
    refine XS.icmpYes X0.here hx rfl (pc0 := 64) (pc' := 74) rfl (hb hby d3_64) rfl (flt hc64).2.2.2 (by decide) (by decide) ?_
    show Steps p.tables e below (s₁.setTop (mkF m 74 #[.val (.int ((((p1 ^^^ (-1 : Int32)) &&& (p1 - (1 : Int32))).toUInt32 >>> ((8 : Int32) &&& 31).toUInt32).toInt32)), .val (.int ((1 : Int32) + (8 : Int32)))] [])) _
    refine XS.iloadN X0.here hx rfl (hb hby d3_74) rfl ?_
    show Steps p.tables e below (s₁.setTop (mkF m 75 #[.val (.int ((((p1 ^^^ (-1 : Int32)) &&& (p1 - (1 : Int32))).toUInt32 >>> ((8 : Int32) &&& 31).toUInt32).toInt32)), .val (.int ((1 : Int32) + (8 : Int32)))] [(.int ((1 : Int32) + (8 : Int32)))])) _
    refine XS.iloadN X0.here hx rfl (hb hby d3_75) rfl ?_
    show Steps p.tables e below (s₁.setTop (mkF m 76 #[.val (.int ((((p1 ^^^ (-1 : Int32)) &&& (p1 - (1 : Int32))).toUInt32 >>> ((8 : Int32) &&& 31).toUInt32).toInt32)), .val (.int ((1 : Int32) + (8 : Int32)))] [(.int ((((p1 ^^^ (-1 : Int32)) &&& (p1 - (1 : Int32))).toUInt32 >>> ((8 : Int32) &&& 31).toUInt32).toInt32)), (.int ((1 : Int32) + (8 : Int32)))])) _
    refine XS.iconst X0.here hx rfl (hb hby d3_76) ?_
    show Steps p.tables e below (s₁.setTop (mkF m 77 #[.val (.int ((((p1 ^^^ (-1 : Int32)) &&& (p1 - (1 : Int32))).toUInt32 >>> ((8 : Int32) &&& 31).toUInt32).toInt32)), .val (.int ((1 : Int32) + (8 : Int32)))] [(.int (1 : Int32)), (.int ((((p1 ^^^ (-1 : Int32)) &&& (p1 - (1 : Int32))).toUInt32 >>> ((8 : Int32) &&& 31).toUInt32).toInt32)), (.int ((1 : Int32) + (8 : Int32)))])) _
    refine XS.iushr X0.here hx rfl (hb hby d3_77) rfl ?_
    show Steps p.tables e below (s₁.setTop (mkF m 78 #[.val (.int ((((p1 ^^^ (-1 : Int32)) &&& (p1 - (1 : Int32))).toUInt32 >>> ((8 : Int32) &&& 31).toUInt32).toInt32)), .val (.int ((1 : Int32) + (8 : Int32)))] [(.int ((((((p1 ^^^ (-1 : Int32)) &&& (p1 - (1 : Int32))).toUInt32 >>> ((8 : Int32) &&& 31).toUInt32).toInt32).toUInt32 >>> ((1 : Int32) &&& 31).toUInt32).toInt32)), (.int ((1 : Int32) + (8 : Int32)))])) _
    refine XS.iadd X0.here hx rfl (hb hby d3_78) rfl ?_
    show Steps p.tables e below (s₁.setTop (mkF m 79 #[.val (.int ((((p1 ^^^ (-1 : Int32)) &&& (p1 - (1 : Int32))).toUInt32 >>> ((8 : Int32) &&& 31).toUInt32).toInt32)), .val (.int ((1 : Int32) + (8 : Int32)))] [(.int (((1 : Int32) + (8 : Int32)) + ((((((p1 ^^^ (-1 : Int32)) &&& (p1 - (1 : Int32))).toUInt32 >>> ((8 : Int32) &&& 31).toUInt32).toInt32).toUInt32 >>> ((1 : Int32) &&& 31).toUInt32).toInt32)))])) _
    exact retI X0 hx Bd.returns (hb hby d3_79) hr
  · show Qi  h0 n0 _ s₁.heap _
    rw [e0]
    exact ⟨_, rfl, N0, rfl⟩
theorem rm3 (l : Launch) (Z : State) (a0 : Array Value) (hw : ∀ d ∈ tables_1, d.before a0 Z = true) (ws : List Jvm.Cond) (p1 : Int32) (h0 : Heap) (n0 : Nat) (Z0 : n0 ≤ h0.size) (hp : Pw p1) :
    MetFree l (⟨"java/lang/Integer", "numberOfTrailingZeros", "(I)I"⟩ : MethodName) (head1 (Jvm.Cond.code (⟨"java/lang/Integer", "numberOfTrailingZeros", "(I)I"⟩ : MethodName) jdk_33_method_48_code 2 (some .int) :: ws) ({ frames := 0, cells := 0, slots := 0, locals := 0 } : Room)) (fun a U => a = #[(.int p1)] ∧ Z.Warmed39 U.vm ∧ U.heap = h0) (fun _ _ _ _ _ => True) (fun _ U o U' => ∃ v L, o = .returned v ∧ Qi  h0 n0 v U'.heap L ∧ FrameEnd U o U' L ({ frames := 0, cells := 0, slots := 0, locals := 0 } : Room).cells ({ frames := 0, cells := 0, slots := 0, locals := 0 } : Room).slots) := by
  rcases hp with rfl | rfl | rfl | rfl | rfl | rfl | rfl | rfl
  · exact rm3_ttttf l Z a0 hw ws _ h0 n0 Z0 (by decide) (by decide) (by decide) (by decide) (by decide) 
  · exact rm3_ttttf l Z a0 hw ws _ h0 n0 Z0 (by decide) (by decide) (by decide) (by decide) (by decide) 
  · exact rm3_tttft l Z a0 hw ws _ h0 n0 Z0 (by decide) (by decide) (by decide) (by decide) (by decide) 
  · exact rm3_tttft l Z a0 hw ws _ h0 n0 Z0 (by decide) (by decide) (by decide) (by decide) (by decide) 
  · exact rm3_tttff l Z a0 hw ws _ h0 n0 Z0 (by decide) (by decide) (by decide) (by decide) (by decide) 
  · exact rm3_tttff l Z a0 hw ws _ h0 n0 Z0 (by decide) (by decide) (by decide) (by decide) (by decide) 
  · exact rm3_ttftt l Z a0 hw ws _ h0 n0 Z0 (by decide) (by decide) (by decide) (by decide) (by decide) 
  · exact rm3_ttftt l Z a0 hw ws _ h0 n0 Z0 (by decide) (by decide) (by decide) (by decide) (by decide) 
theorem d1_0 : decode prog_17_method_1_code 0 = .ok (.aload_n 0, 1) := by decide +kernel
theorem d1_1 : decode prog_17_method_1_code 1 = .ok (.invokespecial 3, 3) := by decide +kernel
theorem d1_4 : decode prog_17_method_1_code 4 = .ok (.aload_n 0, 1) := by decide +kernel
theorem d1_5 : decode prog_17_method_1_code 5 = .ok (.iconst 4, 1) := by decide +kernel
theorem d1_6 : decode prog_17_method_1_code 6 = .ok (.anewarray 9, 3) := by decide +kernel
theorem d1_9 : decode prog_17_method_1_code 9 = .ok (.putfield 11, 3) := by decide +kernel
theorem d1_12 : decode prog_17_method_1_code 12 = .ok (.aload_n 0, 1) := by decide +kernel
theorem d1_13 : decode prog_17_method_1_code 13 = .ok (.iconst 4, 1) := by decide +kernel
theorem d1_14 : decode prog_17_method_1_code 14 = .ok (.newarray .long, 2) := by decide +kernel
theorem d1_16 : decode prog_17_method_1_code 16 = .ok (.putfield 15, 3) := by decide +kernel
theorem d1_19 : decode prog_17_method_1_code 19 = .ok (.aload_n 0, 1) := by decide +kernel
theorem d1_20 : decode prog_17_method_1_code 20 = .ok (.bipush 8, 2) := by decide +kernel
theorem d1_22 : decode prog_17_method_1_code 22 = .ok (.newarray .int, 2) := by decide +kernel
theorem d1_24 : decode prog_17_method_1_code 24 = .ok (.putfield 19, 3) := by decide +kernel
theorem d1_27 : decode prog_17_method_1_code 27 = .ok (.aload_n 0, 1) := by decide +kernel
theorem d1_28 : decode prog_17_method_1_code 28 = .ok (.bipush 8, 2) := by decide +kernel
theorem d1_30 : decode prog_17_method_1_code 30 = .ok (.newarray .long, 2) := by decide +kernel
theorem d1_32 : decode prog_17_method_1_code 32 = .ok (.putfield 23, 3) := by decide +kernel
theorem d1_35 : decode prog_17_method_1_code 35 = .ok (.aload_n 0, 1) := by decide +kernel
theorem d1_36 : decode prog_17_method_1_code 36 = .ok (.bipush 32, 2) := by decide +kernel
theorem d1_38 : decode prog_17_method_1_code 38 = .ok (.bipush 8, 2) := by decide +kernel
theorem d1_40 : decode prog_17_method_1_code 40 = .ok (.invokestatic 28, 3) := by decide +kernel
theorem d1_43 : decode prog_17_method_1_code 43 = .ok (.isub, 1) := by decide +kernel
theorem d1_44 : decode prog_17_method_1_code 44 = .ok (.putfield 32, 3) := by decide +kernel
theorem d1_47 : decode prog_17_method_1_code 47 = .ok (.return_, 1) := by decide +kernel
theorem pn_1 : plainName "com/example/wheredb/wheredb/storage/MemorySet" = true := by first | (simp [plainName, overriddenIn]; done) | decide +kernel
theorem pd_1_1 : parseMethodDescriptor "(I)I" = some ⟨[.int], some .int⟩ := by decide +kernel
theorem ef_1 (m : MethodId) (x0 : Addr) : entryFrame m #[(.ref x0)] 1 = mkF m 0 #[.val (.ref x0)] [] := by first | (simp [entryFrame, mkF, argsToLocals, Value.category]; done) | rfl
def Q1 (Z : State) (a1 : Addr) (u_chunks_a1 : Value) (u_lastCells_a1 : Value) (u_slotHashes_a1 : Value) (u_slotCells_a1 : Value) (u_slotShift_a1 : Value) (h0 : Heap) (n0 : Nat) (v : Option Value) (h : Heap) (L : List Loc) : Prop := v = none ∧ Fr n0 L ∧ Keep h0 h [a1] ∧ Exa Z h a1 "com/example/wheredb/wheredb/storage/MemorySet" ∧ ∃ (b c : Addr) (k : ClassId) (r : Int32), Fld Z h a1 "com/example/wheredb/wheredb/storage/MemorySet" "slotHashes" "[I" (.ref b) ∧ Fld Z h a1 "com/example/wheredb/wheredb/storage/MemorySet" "slotCells" "[J" (.ref c) ∧ Fld Z h a1 "com/example/wheredb/wheredb/storage/MemorySet" "slotShift" "I" (.int r) ∧ Arv Z h b k .int (8 : Int32) [] (.int (0 : Int32))
set_option maxRecDepth 65536 in
set_option maxHeartbeats 40000000 in
theorem rm1 (l : Launch) (Z : State) (a0 : Array Value) (hw : ∀ d ∈ tables_1, d.before a0 Z = true) (ws : List Jvm.Cond) (a1 : Addr) (u_chunks_a1 : Value) (u_lastCells_a1 : Value) (u_slotHashes_a1 : Value) (u_slotCells_a1 : Value) (u_slotShift_a1 : Value) (h0 : Heap) (n0 : Nat) (Z0 : n0 ≤ h0.size) (E_a1 : Exa Z h0 a1 "com/example/wheredb/wheredb/storage/MemorySet") (F_chunks_a1 : Fld Z h0 a1 "com/example/wheredb/wheredb/storage/MemorySet" "chunks" "[Lcom/example/wheredb/wheredb/storage/MemorySet$Chunk;" u_chunks_a1) (g_a1 : n0 ≤ a1) (F_lastCells_a1 : Fld Z h0 a1 "com/example/wheredb/wheredb/storage/MemorySet" "lastCells" "[J" u_lastCells_a1) (F_slotHashes_a1 : Fld Z h0 a1 "com/example/wheredb/wheredb/storage/MemorySet" "slotHashes" "[I" u_slotHashes_a1) (F_slotCells_a1 : Fld Z h0 a1 "com/example/wheredb/wheredb/storage/MemorySet" "slotCells" "[J" u_slotCells_a1) (F_slotShift_a1 : Fld Z h0 a1 "com/example/wheredb/wheredb/storage/MemorySet" "slotShift" "I" u_slotShift_a1) :
    MetFree l (⟨"com/example/wheredb/wheredb/storage/MemorySet", "<init>", "()V"⟩ : MethodName) (head1 (Jvm.Cond.code (⟨"com/example/wheredb/wheredb/storage/MemorySet", "<init>", "()V"⟩ : MethodName) prog_17_method_1_code 1 none :: ws) ({ frames := 1, cells := 4, slots := 24, locals := 15 } : Room)) (fun a U => a = #[(.ref a1)] ∧ Z.Warmed39 U.vm ∧ U.heap = h0) (fun _ _ _ _ _ => True) (fun _ U o U' => ∃ v L, o = .returned v ∧ Q1 Z a1 u_chunks_a1 u_lastCells_a1 u_slotHashes_a1 u_slotCells_a1 u_slotShift_a1 h0 n0 v U'.heap L ∧ FrameEnd U o U' L ({ frames := 1, cells := 4, slots := 24, locals := 15 } : Room).cells ({ frames := 1, cells := 4, slots := 24, locals := 15 } : Room).slots) := by
  refine MetFree.of_bodySF (plainFor_of_name pn_1) hisR ?_
  intro p e s m args below meth c s₁ Bd hml0 hP hK
  obtain ⟨rfl, hZ, hh⟩ := hP
  have hx := Bd.exec
  have hby := Bd.bytes
  have hml : c.maxLocals = 1 := hml0
  have hown : s.vm.findClass "com/example/wheredb/wheredb/storage/MemorySet" = some m.cls := findClass_of_methodNamed Bd.named
  have hnm := (name_of_methodNamed Bd.named Bd.method).1
  have X0 : Stand p l e ({ frames := 1, cells := 4, slots := 24, locals := 15 } : Room) s m #[(.ref a1)] below meth c s₁ [] 0 0 := Stand.of_body Bd
  have e0 : s₁.heap = h0 := by rw [← hh, Bd.state]; rfl
  have N0 := Fr.nil n0
  have pre0 : ∀ t, Steps p.tables e below (s₁.setTop (mkF m 0 #[.val (.ref a1)] [])) t → Steps p.tables e below (s₁.setTop (entryFrame m #[(.ref a1)] 1)) t := fun t k => castTop (ef_1 m a1) k
  obtain ⟨T2, X2, e2, st2⟩ := initO X0 hx hZ hown (hw _ (List.mem_of_getElem? (i := 6) rfl)) (hw _ (List.mem_of_getElem? (i := 7) rfl)) (hw _ (List.mem_of_getElem? (i := 8) rfl)) e0 (g := (mkF m 1 #[.val (.ref a1)] [(.ref a1)])) rfl (by rw [hml]; rfl) rfl (hb hby d1_1) (by decide) (W := 0) (by show 2 * 0 + _ ≤ _; exact Nat.le_of_eq rfl) (by decide)
  obtain ⟨T3, h3, k3, X3, e3, E3, A3, O3, st3⟩ := newR X2 hx hZ hown (hw _ (List.mem_of_getElem? (i := 9) rfl)) (hw _ (List.mem_of_getElem? (i := 10) rfl)) e2 (g := (mkF m 6 #[.val (.ref a1)] [(.int (4 : Int32)), (.ref a1)])) rfl (hb hby d1_6) rfl (by decide) (cap := 4) (by decide) (by decide) (by decide) (by decide)
  obtain ⟨b3, g3⟩ : ∃ z, z = h0.size := ⟨_, rfl⟩
  rw [← g3] at A3 st3
  have V_b3 := Arv.new A3 (by decide)
  have g_b3 : n0 ≤ b3 := Nat.le_trans Z0 (Nat.le_of_eq g3.symm)
  have sz_b3 : h0.size ≤ b3 := (Nat.le_trans (Keep.refl h0 [a1]).1 (Nat.le_of_eq g3.symm))
  have K3 : Keep h0 h3 [a1] := (Keep.refl h0 [a1]).ext E3
  obtain ⟨T4, h4, X4, e4, W4, st4⟩ := putF X3 hx hZ hown (host := "") (Or.inl (hw _ (List.mem_of_getElem? (i := 11) rfl))) Via.refl e3 (F_chunks_a1.ext E3) (E_a1.ext E3) (Or.inl (hw _ (List.mem_of_getElem? (i := 12) rfl))) (hw _ (List.mem_of_getElem? (i := 1) rfl)) (ty := (.array (.object "com/example/wheredb/wheredb/storage/MemorySet$Chunk"))) (by decide) rfl rfl (g := (mkF m 9 #[.val (.ref a1)] [(.ref b3), (.ref a1)])) rfl rfl (hb hby d1_9)
  have Fw4 := (F_chunks_a1.ext E3).same W4
  have K4 : Keep h0 h4 [a1] := K3.wr W4 (Or.inl (List.mem_of_getElem? (i := 0) rfl))
  have N4 := Fr.snoc X4 N0 g_a1
  obtain ⟨T5, h5, k5, X5, e5, E5, A5, st5⟩ := newP X4 hx hZ (hw _ (List.mem_of_getElem? (i := 13) rfl)) e4 (g := (mkF m 14 #[.val (.ref a1)] [(.int (4 : Int32)), (.ref a1)])) rfl (hb hby d1_14) rfl (by decide) (cap := 4) (by decide) (by decide) (by decide) (by decide)
  obtain ⟨b5, g5⟩ : ∃ z, z = h4.size := ⟨_, rfl⟩
  rw [← g5] at A5 st5
  have V_b5 : Arv Z h5 b5 k5 .long (4 : Int32) [(.long (0 : Int64)), (.long (0 : Int64)), (.long (0 : Int64)), (.long (0 : Int64))] (.long (0 : Int64)) := (Arv.new A5 (by decide)).pad (pad_rep [] (.long (0 : Int64)) 4)
  have g_b5 : n0 ≤ b5 := Nat.le_trans (Nat.le_trans (Nat.le_trans Z0 E3.1) (Keep.of_wr W4).1) (Nat.le_of_eq g5.symm)
  have sz_b5 : h0.size ≤ b5 := (Nat.le_trans K4.1 (Nat.le_of_eq g5.symm))
  have K5 : Keep h0 h5 [a1] := K4.ext E5
  obtain ⟨T6, h6, X6, e6, W6, st6⟩ := putF X5 hx hZ hown (host := "") (Or.inl (hw _ (List.mem_of_getElem? (i := 14) rfl))) Via.refl e5 (((F_lastCells_a1.ext E3).other W4 (Or.inr (slot_ne (Or.inl (hw _ (List.mem_of_getElem? (i := 15) rfl))) (Or.inl (hw _ (List.mem_of_getElem? (i := 12) rfl))) (by decide) (t := (.array .long)) (t' := (.array (.object "com/example/wheredb/wheredb/storage/MemorySet$Chunk"))) (by decide) (by decide)))).ext E5) (((E_a1.ext E3).wr W4).ext E5) (Or.inl (hw _ (List.mem_of_getElem? (i := 15) rfl))) (hw _ (List.mem_of_getElem? (i := 1) rfl)) (ty := (.array .long)) (by decide) rfl rfl (g := (mkF m 16 #[.val (.ref a1)] [(.ref b5), (.ref a1)])) rfl rfl (hb hby d1_16)
  have Fw6 := (((F_lastCells_a1.ext E3).other W4 (Or.inr (slot_ne (Or.inl (hw _ (List.mem_of_getElem? (i := 15) rfl))) (Or.inl (hw _ (List.mem_of_getElem? (i := 12) rfl))) (by decide) (t := (.array .long)) (t' := (.array (.object "com/example/wheredb/wheredb/storage/MemorySet$Chunk"))) (by decide) (by decide)))).ext E5).same W6
  have K6 : Keep h0 h6 [a1] := K5.wr W6 (Or.inl (List.mem_of_getElem? (i := 0) rfl))
  have N6 := Fr.snoc X6 N4 g_a1
  obtain ⟨T7, h7, k7, X7, e7, E7, A7, st7⟩ := newP X6 hx hZ (hw _ (List.mem_of_getElem? (i := 16) rfl)) e6 (g := (mkF m 22 #[.val (.ref a1)] [(.int (8 : Int32)), (.ref a1)])) rfl (hb hby d1_22) rfl (by decide) (cap := 8) (by decide) (by decide) (by decide) (by decide)
  obtain ⟨b7, g7⟩ : ∃ z, z = h6.size := ⟨_, rfl⟩
  rw [← g7] at A7 st7
  have V_b7 : Arv Z h7 b7 k7 .int (8 : Int32) [(.int (0 : Int32)), (.int (0 : Int32)), (.int (0 : Int32)), (.int (0 : Int32)), (.int (0 : Int32)), (.int (0 : Int32)), (.int (0 : Int32)), (.int (0 : Int32))] (.int (0 : Int32)) := (Arv.new A7 (by decide)).pad (pad_rep [] (.int (0 : Int32)) 8)
  have g_b7 : n0 ≤ b7 := Nat.le_trans (Nat.le_trans (Nat.le_trans (Nat.le_trans (Nat.le_trans Z0 E3.1) (Keep.of_wr W4).1) E5.1) (Keep.of_wr W6).1) (Nat.le_of_eq g7.symm)
  have sz_b7 : h0.size ≤ b7 := (Nat.le_trans K6.1 (Nat.le_of_eq g7.symm))
  have K7 : Keep h0 h7 [a1] := K6.ext E7
  obtain ⟨T8, h8, X8, e8, W8, st8⟩ := putF X7 hx hZ hown (host := "") (Or.inl (hw _ (List.mem_of_getElem? (i := 17) rfl))) Via.refl e7 (((((F_slotHashes_a1.ext E3).other W4 (Or.inr (slot_ne (Or.inl (hw _ (List.mem_of_getElem? (i := 18) rfl))) (Or.inl (hw _ (List.mem_of_getElem? (i := 12) rfl))) (by decide) (t := (.array .int)) (t' := (.array (.object "com/example/wheredb/wheredb/storage/MemorySet$Chunk"))) (by decide) (by decide)))).ext E5).other W6 (Or.inr (slot_ne (Or.inl (hw _ (List.mem_of_getElem? (i := 18) rfl))) (Or.inl (hw _ (List.mem_of_getElem? (i := 15) rfl))) (by decide) (t := (.array .int)) (t' := (.array .long)) (by decide) (by decide)))).ext E7) (((((E_a1.ext E3).wr W4).ext E5).wr W6).ext E7) (Or.inl (hw _ (List.mem_of_getElem? (i := 18) rfl))) (hw _ (List.mem_of_getElem? (i := 1) rfl)) (ty := (.array .int)) (by decide) rfl rfl (g := (mkF m 24 #[.val (.ref a1)] [(.ref b7), (.ref a1)])) rfl rfl (hb hby d1_24)
  have Fw8 := (((((F_slotHashes_a1.ext E3).other W4 (Or.inr (slot_ne (Or.inl (hw _ (List.mem_of_getElem? (i := 18) rfl))) (Or.inl (hw _ (List.mem_of_getElem? (i := 12) rfl))) (by decide) (t := (.array .int)) (t' := (.array (.object "com/example/wheredb/wheredb/storage/MemorySet$Chunk"))) (by decide) (by decide)))).ext E5).other W6 (Or.inr (slot_ne (Or.inl (hw _ (List.mem_of_getElem? (i := 18) rfl))) (Or.inl (hw _ (List.mem_of_getElem? (i := 15) rfl))) (by decide) (t := (.array .int)) (t' := (.array .long)) (by decide) (by decide)))).ext E7).same W8
  have K8 : Keep h0 h8 [a1] := K7.wr W8 (Or.inl (List.mem_of_getElem? (i := 0) rfl))
  have N8 := Fr.snoc X8 N6 g_a1
  obtain ⟨T9, h9, k9, X9, e9, E9, A9, st9⟩ := newP X8 hx hZ (hw _ (List.mem_of_getElem? (i := 13) rfl)) e8 (g := (mkF m 30 #[.val (.ref a1)] [(.int (8 : Int32)), (.ref a1)])) rfl (hb hby d1_30) rfl (by decide) (cap := 8) (by decide) (by decide) (by decide) (by decide)
  obtain ⟨b9, g9⟩ : ∃ z, z = h8.size := ⟨_, rfl⟩
  rw [← g9] at A9 st9
  have V_b9 : Arv Z h9 b9 k9 .long (8 : Int32) [(.long (0 : Int64)), (.long (0 : Int64)), (.long (0 : Int64)), (.long (0 : Int64)), (.long (0 : Int64)), (.long (0 : Int64)), (.long (0 : Int64)), (.long (0 : Int64))] (.long (0 : Int64)) := (Arv.new A9 (by decide)).pad (pad_rep [] (.long (0 : Int64)) 8)
  have g_b9 : n0 ≤ b9 := Nat.le_trans (Nat.le_trans (Nat.le_trans (Nat.le_trans (Nat.le_trans (Nat.le_trans (Nat.le_trans Z0 E3.1) (Keep.of_wr W4).1) E5.1) (Keep.of_wr W6).1) E7.1) (Keep.of_wr W8).1) (Nat.le_of_eq g9.symm)
  have sz_b9 : h0.size ≤ b9 := (Nat.le_trans K8.1 (Nat.le_of_eq g9.symm))
  have K9 : Keep h0 h9 [a1] := K8.ext E9
  obtain ⟨T10, h10, X10, e10, W10, st10⟩ := putF X9 hx hZ hown (host := "") (Or.inl (hw _ (List.mem_of_getElem? (i := 19) rfl))) Via.refl e9 (((((((F_slotCells_a1.ext E3).other W4 (Or.inr (slot_ne (Or.inl (hw _ (List.mem_of_getElem? (i := 20) rfl))) (Or.inl (hw _ (List.mem_of_getElem? (i := 12) rfl))) (by decide) (t := (.array .long)) (t' := (.array (.object "com/example/wheredb/wheredb/storage/MemorySet$Chunk"))) (by decide) (by decide)))).ext E5).other W6 (Or.inr (slot_ne (Or.inl (hw _ (List.mem_of_getElem? (i := 20) rfl))) (Or.inl (hw _ (List.mem_of_getElem? (i := 15) rfl))) (by decide) (t := (.array .long)) (t' := (.array .long)) (by decide) (by decide)))).ext E7).other W8 (Or.inr (slot_ne (Or.inl (hw _ (List.mem_of_getElem? (i := 20) rfl))) (Or.inl (hw _ (List.mem_of_getElem? (i := 18) rfl))) (by decide) (t := (.array .long)) (t' := (.array .int)) (by decide) (by decide)))).ext E9) (((((((E_a1.ext E3).wr W4).ext E5).wr W6).ext E7).wr W8).ext E9) (Or.inl (hw _ (List.mem_of_getElem? (i := 20) rfl))) (hw _ (List.mem_of_getElem? (i := 1) rfl)) (ty := (.array .long)) (by decide) rfl rfl (g := (mkF m 32 #[.val (.ref a1)] [(.ref b9), (.ref a1)])) rfl rfl (hb hby d1_32)
  have Fw10 := (((((((F_slotCells_a1.ext E3).other W4 (Or.inr (slot_ne (Or.inl (hw _ (List.mem_of_getElem? (i := 20) rfl))) (Or.inl (hw _ (List.mem_of_getElem? (i := 12) rfl))) (by decide) (t := (.array .long)) (t' := (.array (.object "com/example/wheredb/wheredb/storage/MemorySet$Chunk"))) (by decide) (by decide)))).ext E5).other W6 (Or.inr (slot_ne (Or.inl (hw _ (List.mem_of_getElem? (i := 20) rfl))) (Or.inl (hw _ (List.mem_of_getElem? (i := 15) rfl))) (by decide) (t := (.array .long)) (t' := (.array .long)) (by decide) (by decide)))).ext E7).other W8 (Or.inr (slot_ne (Or.inl (hw _ (List.mem_of_getElem? (i := 20) rfl))) (Or.inl (hw _ (List.mem_of_getElem? (i := 18) rfl))) (by decide) (t := (.array .long)) (t' := (.array .int)) (by decide) (by decide)))).ext E9).same W10
  have K10 : Keep h0 h10 [a1] := K9.wr W10 (Or.inl (List.mem_of_getElem? (i := 0) rfl))
  have N10 := Fr.snoc X10 N8 g_a1
  obtain ⟨_, _, ⟨T11, L11, k11, n11⟩, -, X11, ⟨Lc11, hQ11, l11, y11, z11⟩, st11⟩ := Jvm.LawKit.callS X10 hx (y := (⟨"java/lang/Integer", "numberOfTrailingZeros", "(I)I"⟩ : MethodName)) hown (mvT hZ (hw _ (List.mem_of_getElem? (i := 21) rfl))) (mvT hZ (hw _ (List.mem_of_getElem? (i := 22) rfl))) (mvT hZ (hw _ (List.mem_of_getElem? (i := 23) rfl))) (mvT hZ (hw _ (List.mem_of_getElem? (i := 24) rfl))) (by decide) (backOf (W := 2) (rm3 l Z a0 hw [] (8 : Int32)  h10 n0 (Nat.le_trans (Nat.le_trans (Nat.le_trans (Nat.le_trans (Nat.le_trans (Nat.le_trans (Nat.le_trans (Nat.le_trans Z0 E3.1) (Keep.of_wr W4).1) E5.1) (Keep.of_wr W6).1) E7.1) (Keep.of_wr W8).1) E9.1) (Keep.of_wr W10).1) (by unfold Pw; decide)) hZ (hw _ (List.mem_of_getElem? (i := 24) rfl)) (hw _ (List.mem_of_getElem? (i := 23) rfl)) (by decide) (by decide)) (g := (mkF m 40 #[.val (.ref a1)] [(.int (8 : Int32)), (.int (32 : Int32)), (.ref a1)])) rfl (by rw [hml]; rfl) (argsL := [(.int (8 : Int32))]) (rest := [(.int (32 : Int32)), (.ref a1)]) (lenOf pd_1_1 rfl) rfl (by show 2 * 0 + _ ≤ _; exact Nat.le_of_eq rfl) (hb hby d1_40) (fun _ _ => ⟨rfl, e10, (by decide : 4 + 0 ≤ _), (by decide : 24 + 0 ≤ _)⟩)
  dsimp only [Pt.U, Pt.locs, Pt.cells, Pt.slots] at X11 l11 y11 z11 st11 hQ11
  subst l11 y11 z11
  obtain ⟨r11, rfl, N11q, hh11⟩ := hQ11
  have N11 := Fr.app N10 N11q
  obtain ⟨T12, h12, X12, e12, W12, st12⟩ := putF X11 hx hZ hown (host := "") (Or.inl (hw _ (List.mem_of_getElem? (i := 26) rfl))) Via.refl hh11 ((((((((F_slotShift_a1.ext E3).other W4 (Or.inr (slot_ne (Or.inl (hw _ (List.mem_of_getElem? (i := 27) rfl))) (Or.inl (hw _ (List.mem_of_getElem? (i := 12) rfl))) (by decide) (t := .int) (t' := (.array (.object "com/example/wheredb/wheredb/storage/MemorySet$Chunk"))) (by decide) (by decide)))).ext E5).other W6 (Or.inr (slot_ne (Or.inl (hw _ (List.mem_of_getElem? (i := 27) rfl))) (Or.inl (hw _ (List.mem_of_getElem? (i := 15) rfl))) (by decide) (t := .int) (t' := (.array .long)) (by decide) (by decide)))).ext E7).other W8 (Or.inr (slot_ne (Or.inl (hw _ (List.mem_of_getElem? (i := 27) rfl))) (Or.inl (hw _ (List.mem_of_getElem? (i := 18) rfl))) (by decide) (t := .int) (t' := (.array .int)) (by decide) (by decide)))).ext E9).other W10 (Or.inr (slot_ne (Or.inl (hw _ (List.mem_of_getElem? (i := 27) rfl))) (Or.inl (hw _ (List.mem_of_getElem? (i := 20) rfl))) (by decide) (t := .int) (t' := (.array .long)) (by decide) (by decide)))) ((((((((E_a1.ext E3).wr W4).ext E5).wr W6).ext E7).wr W8).ext E9).wr W10) (Or.inl (hw _ (List.mem_of_getElem? (i := 27) rfl))) (hw _ (List.mem_of_getElem? (i := 1) rfl)) (ty := .int) (by decide) rfl rfl (g := (mkF m 44 #[.val (.ref a1)] [(.int ((32 : Int32) - r11)), (.ref a1)])) rfl rfl (hb hby d1_44)
  have Fw12 := ((((((((F_slotShift_a1.ext E3).other W4 (Or.inr (slot_ne (Or.inl (hw _ (List.mem_of_getElem? (i := 27) rfl))) (Or.inl (hw _ (List.mem_of_getElem? (i := 12) rfl))) (by decide) (t := .int) (t' := (.array (.object "com/example/wheredb/wheredb/storage/MemorySet$Chunk"))) (by decide) (by decide)))).ext E5).other W6 (Or.inr (slot_ne (Or.inl (hw _ (List.mem_of_getElem? (i := 27) rfl))) (Or.inl (hw _ (List.mem_of_getElem? (i := 15) rfl))) (by decide) (t := .int) (t' := (.array .long)) (by decide) (by decide)))).ext E7).other W8 (Or.inr (slot_ne (Or.inl (hw _ (List.mem_of_getElem? (i := 27) rfl))) (Or.inl (hw _ (List.mem_of_getElem? (i := 18) rfl))) (by decide) (t := .int) (t' := (.array .int)) (by decide) (by decide)))).ext E9).other W10 (Or.inr (slot_ne (Or.inl (hw _ (List.mem_of_getElem? (i := 27) rfl))) (Or.inl (hw _ (List.mem_of_getElem? (i := 20) rfl))) (by decide) (t := .int) (t' := (.array .long)) (by decide) (by decide)))).same W12
  have K12 : Keep h0 h12 [a1] := K10.wr W12 (Or.inl (List.mem_of_getElem? (i := 0) rfl))
  have N12 := Fr.snoc X12 N11 g_a1
  obtain ⟨fs, hr, hrun, hended, hW, hsame⟩ := X12.leave (v := none) (fun _ => rfl)
  refine ⟨_, _, pre0 _ ?_, hrun, hended, _, _, rfl, ?_, ⟨_, rfl⟩, hW, hsame.mono (by decide) (by decide)⟩
  · show Steps p.tables e below (s₁.setTop (mkF m 0 #[.val (.ref a1)] [])) _
    refine XS.aloadN X0.here hx rfl (hb hby d1_0) rfl rfl ?_
    show Steps p.tables e below (s₁.setTop (mkF m 1 #[.val (.ref a1)] [(.ref a1)])) _
    refine st2 _ ?_
    show Steps p.tables e below (T2.setTop (mkF m 4 #[.val (.ref a1)] [])) _
    refine XS.aloadN X2.here hx rfl (hb hby d1_4) rfl rfl ?_
    show Steps p.tables e below (T2.setTop (mkF m 5 #[.val (.ref a1)] [(.ref a1)])) _
    refine XS.iconst X2.here hx rfl (hb hby d1_5) ?_
    show Steps p.tables e below (T2.setTop (mkF m 6 #[.val (.ref a1)] [(.int (4 : Int32)), (.ref a1)])) _
    refine st3 _ ?_
    show Steps p.tables e below (T3.setTop (mkF m 9 #[.val (.ref a1)] [(.ref b3), (.ref a1)])) _
    refine st4 _ ?_
    show Steps p.tables e below (T4.setTop (mkF m 12 #[.val (.ref a1)] [])) _
    refine XS.aloadN X4.here hx rfl (hb hby d1_12) rfl rfl ?_
    show Steps p.tables e below (T4.setTop (mkF m 13 #[.val (.ref a1)] [(.ref a1)])) _
    refine XS.iconst X4.here hx rfl (hb hby d1_13) ?_
    show Steps p.tables e below (T4.setTop (mkF m 14 #[.val (.ref a1)] [(.int (4 : Int32)), (.ref a1)])) _
    refine st5 _ ?_
    show Steps p.tables e below (T5.setTop (mkF m 16 #[.val (.ref a1)] [(.ref b5), (.ref a1)])) _
    refine st6 _ ?_
    show Steps p.tables e below (T6.setTop (mkF m 19 #[.val (.ref a1)] [])) _
    refine XS.aloadN X6.here hx rfl (hb hby d1_19) rfl rfl ?_
    show Steps p.tables e below (T6.setTop (mkF m 20 #[.val (.ref a1)] [(.ref a1)])) _
    refine XS.bipush X6.here hx rfl (hb hby d1_20) ?_
    show Steps p.tables e below (T6.setTop (mkF m 22 #[.val (.ref a1)] [(.int (8 : Int32)), (.ref a1)])) _
    refine st7 _ ?_
    show Steps p.tables e below (T7.setTop (mkF m 24 #[.val (.ref a1)] [(.ref b7), (.ref a1)])) _
    refine st8 _ ?_
    show Steps p.tables e below (T8.setTop (mkF m 27 #[.val (.ref a1)] [])) _
    refine XS.aloadN X8.here hx rfl (hb hby d1_27) rfl rfl ?_
    show Steps p.tables e below (T8.setTop (mkF m 28 #[.val (.ref a1)] [(.ref a1)])) _
    refine XS.bipush X8.here hx rfl (hb hby d1_28) ?_
    show Steps p.tables e below (T8.setTop (mkF m 30 #[.val (.ref a1)] [(.int (8 : Int32)), (.ref a1)])) _
    refine st9 _ ?_
    show Steps p.tables e below (T9.setTop (mkF m 32 #[.val (.ref a1)] [(.ref b9), (.ref a1)])) _
    refine st10 _ ?_
    show Steps p.tables e below (T10.setTop (mkF m 35 #[.val (.ref a1)] [])) _
    refine XS.aloadN X10.here hx rfl (hb hby d1_35) rfl rfl ?_
    show Steps p.tables e below (T10.setTop (mkF m 36 #[.val (.ref a1)] [(.ref a1)])) _
    refine XS.bipush X10.here hx rfl (hb hby d1_36) ?_
    show Steps p.tables e below (T10.setTop (mkF m 38 #[.val (.ref a1)] [(.int (32 : Int32)), (.ref a1)])) _
    refine XS.bipush X10.here hx rfl (hb hby d1_38) ?_
    show Steps p.tables e below (T10.setTop (mkF m 40 #[.val (.ref a1)] [(.int (8 : Int32)), (.int (32 : Int32)), (.ref a1)])) _
    refine st11 _ ?_
    show Steps p.tables e below (T11.setTop (mkF m 43 #[.val (.ref a1)] [(.int r11), (.int (32 : Int32)), (.ref a1)])) _
    refine XS.isub X11.here hx rfl (hb hby d1_43) rfl ?_
    show Steps p.tables e below (T11.setTop (mkF m 44 #[.val (.ref a1)] [(.int ((32 : Int32) - r11)), (.ref a1)])) _
    refine st12 _ ?_
    show Steps p.tables e below (T12.setTop (mkF m 47 #[.val (.ref a1)] [])) _
    exact X12.returnOut hx Bd.returns (hb hby d1_47) hr
  · show Q1 Z a1 u_chunks_a1 u_lastCells_a1 u_slotHashes_a1 u_slotCells_a1 u_slotShift_a1 h0 n0 _ T12.heap _
    rw [e12]
    exact ⟨rfl, N12, K12, (((((((((E_a1.ext E3).wr W4).ext E5).wr W6).ext E7).wr W8).ext E9).wr W10).wr W12), b7, b9, _, _, (((Fw8.ext E9).other W10 (Or.inr (slot_ne (Or.inl (hw _ (List.mem_of_getElem? (i := 18) rfl))) (Or.inl (hw _ (List.mem_of_getElem? (i := 20) rfl))) (by decide) (t := (.array .int)) (t' := (.array .long)) (by decide) (by decide)))).other W12 (Or.inr (slot_ne (Or.inl (hw _ (List.mem_of_getElem? (i := 18) rfl))) (Or.inl (hw _ (List.mem_of_getElem? (i := 27) rfl))) (by decide) (t := (.array .int)) (t' := .int) (by decide) (by decide)))), (Fw10.other W12 (Or.inr (slot_ne (Or.inl (hw _ (List.mem_of_getElem? (i := 20) rfl))) (Or.inl (hw _ (List.mem_of_getElem? (i := 27) rfl))) (by decide) (t := (.array .long)) (t' := .int) (by decide) (by decide)))), Fw12, (((((V_b7.other W8 (Ne.symm (Nat.ne_of_lt (Nat.lt_of_lt_of_le ((((E_a1.ext E3).wr W4).ext E5).wr W6).lt (Nat.le_of_eq g7.symm))))).ext E9).other W10 (Ne.symm (Nat.ne_of_lt (Nat.lt_of_lt_of_le ((((E_a1.ext E3).wr W4).ext E5).wr W6).lt (Nat.le_of_eq g7.symm))))).other W12 (Ne.symm (Nat.ne_of_lt (Nat.lt_of_lt_of_le ((((E_a1.ext E3).wr W4).ext E5).wr W6).lt (Nat.le_of_eq g7.symm)))))).pad (fun i => (pad_rep [] (.int (0 : Int32)) 8 i).symm)⟩
theorem d6_44 : decode prog_17_method_20_code 44 = .ok (.iload 6, 2) := by decide +kernel
theorem d6_46 : decode prog_17_method_20_code 46 = .ok (.aload 4, 2) := by decide +kernel
theorem d6_48 : decode prog_17_method_20_code 48 = .ok (.arraylength, 1) := by decide +kernel
theorem d6_49 : decode prog_17_method_20_code 49 = .ok (.if_icmp .ge 31, 3) := by decide +kernel
theorem d6_52 : decode prog_17_method_20_code 52 = .ok (.aload 4, 2) := by decide +kernel
theorem d6_54 : decode prog_17_method_20_code 54 = .ok (.iload 6, 2) := by decide +kernel
theorem d6_56 : decode prog_17_method_20_code 56 = .ok (.iaload, 1) := by decide +kernel
theorem d6_57 : decode prog_17_method_20_code 57 = .ok (.ifCond .eq 17, 3) := by decide +kernel
theorem d6_74 : decode prog_17_method_20_code 74 = .ok (.iinc 6 1, 3) := by decide +kernel
theorem d6_77 : decode prog_17_method_20_code 77 = .ok (.goto (-33), 3) := by decide +kernel
set_option maxRecDepth 65536 in
set_option maxHeartbeats 40000000 in
theorem tn6_44_44 {p : Program} {l : Launch} {e : Env} {R : Room} {s : State} {m : MethodId} {args : Array Value} {below : List Frame} {meth : Method} {c : Code} {T0 : State} {locs : List Loc} {cells slots : Nat} {Z : State} {a0 : Array Value} {h0 : Heap} (s0 : Slot) (s1 : Slot) (s2 : Slot) (s3 : Slot) (o4 : Addr) (s5 : Slot) (i6 i7 : Int32) (cl_o4 : Cell) (z_o4 : Int32) (w3 : Int32)
    (X0 : Stand p l e R s m args below meth c T0 locs cells slots) (hx : p.tables.exec = Jvm.exec) (hZ : Z.Warmed39 s.vm) (hw : ∀ d ∈ tables_1, d.before a0 Z = true) (hby : c.code = prog_17_method_20_code) (hml : c.maxLocals = 7) (hown : s.vm.findClass "com/example/wheredb/wheredb/storage/MemorySet" = some m.cls) (e0 : T0.heap = h0) (Ar_o4 : Arr Z h0 o4 cl_o4 .int) (S_o4 : cl_o4.slots.size = z_o4.toNatClampNeg) (N_o4 : ¬ z_o4 < 0) (hin56 : ¬ (i6 < 0 ∨ cl_o4.slots.size ≤ (i6).toNatClampNeg)) (hat56 : cl_o4.slots[(i6).toNatClampNeg]? = some (.int w3)) (hc49 : i6 < z_o4) (hc57 : w3 = (0 : Int32)) (hi : i6 + (1 : Int32) = i7) :
    ∀ target, Steps p.tables e below (T0.setTop (mkF m 44 #[s0, s1, s2, s3, .val (.ref o4), s5, .val (.int i7)] [])) target → Steps p.tables e below (T0.setTop (mkF m 44 #[s0, s1, s2, s3, .val (.ref o4), s5, .val (.int i6)] [])) target := by

  intro target kt
  subst hi
  show Steps p.tables e below (T0.setTop (mkF m 44 #[s0, s1, s2, s3, .val (.ref o4), s5, .val (.int i6)] [])) _
  refine XS.iload X0.here hx rfl (hb hby d6_44) rfl ?_
  show Steps p.tables e below (T0.setTop (mkF m 46 #[s0, s1, s2, s3, .val (.ref o4), s5, .val (.int i6)] [(.int i6)])) _
  refine XS.aload X0.here hx rfl (hb hby d6_46) rfl rfl ?_
  show Steps p.tables e below (T0.setTop (mkF m 48 #[s0, s1, s2, s3, .val (.ref o4), s5, .val (.int i6)] [(.ref o4), (.int i6)])) _
  refine X0.arraylength hx (by rw [e0]; exact Ar_o4.1) (State.isArrayOf_alike hZ.alike Ar_o4.2.1) (g := (mkF m 48 #[s0, s1, s2, s3, .val (.ref o4), s5, .val (.int i6)] [(.ref o4), (.int i6)])) rfl rfl (hb hby d6_48) _ ?_
  rw [len_of S_o4 N_o4]
  show Steps p.tables e below (T0.setTop (mkF m 49 #[s0, s1, s2, s3, .val (.ref o4), s5, .val (.int i6)] [(.int z_o4), (.int i6)])) _
  refine XS.icmpNo X0.here hx rfl (hb hby d6_49) rfl (tlt hc49).2.1 ?_
  show Steps p.tables e below (T0.setTop (mkF m 52 #[s0, s1, s2, s3, .val (.ref o4), s5, .val (.int i6)] [])) _
  refine XS.aload X0.here hx rfl (hb hby d6_52) rfl rfl ?_
  show Steps p.tables e below (T0.setTop (mkF m 54 #[s0, s1, s2, s3, .val (.ref o4), s5, .val (.int i6)] [(.ref o4)])) _
  refine XS.iload X0.here hx rfl (hb hby d6_54) rfl ?_
  show Steps p.tables e below (T0.setTop (mkF m 56 #[s0, s1, s2, s3, .val (.ref o4), s5, .val (.int i6)] [(.int i6), (.ref o4)])) _
  refine X0.iaload hx (j := i6) (v := (.int w3)) (by rw [e0]; exact Ar_o4.1) (State.isArrayOf_alike hZ.alike Ar_o4.2.1) Ar_o4.2.2 hin56 hat56 (g := (mkF m 56 #[s0, s1, s2, s3, .val (.ref o4), s5, .val (.int i6)] [(.int i6), (.ref o4)])) rfl rfl (hb hby d6_56) _ ?_
  show Steps p.tables e below (T0.setTop (mkF m 57 #[s0, s1, s2, s3, .val (.ref o4), s5, .val (.int i6)] [(.int w3)])) _
  refine XS.ifYes X0.here hx rfl (pc0 := 57) (pc' := 74) rfl (hb hby d6_57) rfl ((if0 _ _).trans (teq hc57).1) (by decide) (by decide) ?_
  show Steps p.tables e below (T0.setTop (mkF m 74 #[s0, s1, s2, s3, .val (.ref o4), s5, .val (.int i6)] [])) _
  refine XS.iinc X0.here hx rfl (hb hby d6_74) rfl (l' := #[s0, s1, s2, s3, .val (.ref o4), s5, .val (.int (i6 + (1 : Int32)))]) rfl ?_
  show Steps p.tables e below (T0.setTop (mkF m 77 #[s0, s1, s2, s3, .val (.ref o4), s5, .val (.int (i6 + (1 : Int32)))] [])) _
  refine XS.goto X0.here hx rfl (pc0 := 77) (pc' := 44) rfl (hb hby d6_77) (by decide) (by decide) ?_
  exact kt
theorem d6_0 : decode prog_17_method_20_code 0 = .ok (.iload_n 1, 1) := by decide +kernel
theorem d6_1 : decode prog_17_method_20_code 1 = .ok (.newarray .int, 2) := by decide +kernel
theorem d6_3 : decode prog_17_method_20_code 3 = .ok (.astore_n 2, 1) := by decide +kernel
theorem d6_4 : decode prog_17_method_20_code 4 = .ok (.iload_n 1, 1) := by decide +kernel
theorem d6_5 : decode prog_17_method_20_code 5 = .ok (.newarray .long, 2) := by decide +kernel
theorem d6_7 : decode prog_17_method_20_code 7 = .ok (.astore_n 3, 1) := by decide +kernel
theorem d6_8 : decode prog_17_method_20_code 8 = .ok (.aload_n 0, 1) := by decide +kernel
theorem d6_9 : decode prog_17_method_20_code 9 = .ok (.getfield 19, 3) := by decide +kernel
theorem d6_12 : decode prog_17_method_20_code 12 = .ok (.astore 4, 2) := by decide +kernel
theorem d6_14 : decode prog_17_method_20_code 14 = .ok (.aload_n 0, 1) := by decide +kernel
theorem d6_15 : decode prog_17_method_20_code 15 = .ok (.getfield 23, 3) := by decide +kernel
theorem d6_18 : decode prog_17_method_20_code 18 = .ok (.astore 5, 2) := by decide +kernel
theorem d6_20 : decode prog_17_method_20_code 20 = .ok (.aload_n 0, 1) := by decide +kernel
theorem d6_21 : decode prog_17_method_20_code 21 = .ok (.aload_n 2, 1) := by decide +kernel
theorem d6_22 : decode prog_17_method_20_code 22 = .ok (.putfield 19, 3) := by decide +kernel
theorem d6_25 : decode prog_17_method_20_code 25 = .ok (.aload_n 0, 1) := by decide +kernel
theorem d6_26 : decode prog_17_method_20_code 26 = .ok (.aload_n 3, 1) := by decide +kernel
theorem d6_27 : decode prog_17_method_20_code 27 = .ok (.putfield 23, 3) := by decide +kernel
theorem d6_30 : decode prog_17_method_20_code 30 = .ok (.aload_n 0, 1) := by decide +kernel
theorem d6_31 : decode prog_17_method_20_code 31 = .ok (.bipush 32, 2) := by decide +kernel
theorem d6_33 : decode prog_17_method_20_code 33 = .ok (.iload_n 1, 1) := by decide +kernel
theorem d6_34 : decode prog_17_method_20_code 34 = .ok (.invokestatic 28, 3) := by decide +kernel
theorem d6_37 : decode prog_17_method_20_code 37 = .ok (.isub, 1) := by decide +kernel
theorem d6_38 : decode prog_17_method_20_code 38 = .ok (.putfield 32, 3) := by decide +kernel
theorem d6_41 : decode prog_17_method_20_code 41 = .ok (.iconst 0, 1) := by decide +kernel
theorem d6_42 : decode prog_17_method_20_code 42 = .ok (.istore 6, 2) := by decide +kernel
theorem d6_80 : decode prog_17_method_20_code 80 = .ok (.return_, 1) := by decide +kernel
theorem pn_6 : plainName "com/example/wheredb/wheredb/storage/MemorySet" = true := by first | (simp [plainName, overriddenIn]; done) | decide +kernel
theorem pd_6_1 : parseMethodDescriptor "(I)I" = some ⟨[.int], some .int⟩ := by decide +kernel
theorem ef_6 (m : MethodId) (x0 : Addr) (x1 : Int32) : entryFrame m #[(.ref x0), (.int x1)] 7 = mkF m 0 #[.val (.ref x0), .val (.int x1), .unset, .unset, .unset, .unset, .unset] [] := by first | (simp [entryFrame, mkF, argsToLocals, Value.category]; done) | rfl
def Q6 (Z : State) (a1 : Addr) (p2 : Int32) (w5 : Addr) (w7 : Addr) (u_slotShift_a1 : Value) (kw : ClassId) (h0 : Heap) (n0 : Nat) (v : Option Value) (h : Heap) (L : List Loc) : Prop := v = none ∧ Fr n0 L ∧ Keep h0 h [a1] ∧ Exa Z h a1 "com/example/wheredb/wheredb/storage/MemorySet" ∧ ∃ (b : Addr) (k : ClassId), Fld Z h a1 "com/example/wheredb/wheredb/storage/MemorySet" "slotHashes" "[I" (.ref b) ∧ Arv Z h b k .int p2 [] (.int (0 : Int32))
set_option maxRecDepth 65536 in
set_option maxHeartbeats 40000000 in
theorem rm6 (l : Launch) (Z : State) (a0 : Array Value) (hw : ∀ d ∈ tables_1, d.before a0 Z = true) (ws : List Jvm.Cond) (a1 : Addr) (p2 : Int32) (w5 : Addr) (w7 : Addr) (u_slotShift_a1 : Value) (kw : ClassId) (h0 : Heap) (n0 : Nat) (Z0 : n0 ≤ h0.size) (F_slotHashes_a1 : Fld Z h0 a1 "com/example/wheredb/wheredb/storage/MemorySet" "slotHashes" "[I" (.ref w5)) (F_slotCells_a1 : Fld Z h0 a1 "com/example/wheredb/wheredb/storage/MemorySet" "slotCells" "[J" (.ref w7)) (E_a1 : Exa Z h0 a1 "com/example/wheredb/wheredb/storage/MemorySet") (g_a1 : n0 ≤ a1) (F_slotShift_a1 : Fld Z h0 a1 "com/example/wheredb/wheredb/storage/MemorySet" "slotShift" "I" u_slotShift_a1) (V5 : Arv Z h0 w5 kw .int (8 : Int32) [] (.int (0 : Int32))) (hp : Pw p2) :
    MetFree l (⟨"com/example/wheredb/wheredb/storage/MemorySet", "growTable", "(I)V"⟩ : MethodName) (head1 (Jvm.Cond.code (⟨"com/example/wheredb/wheredb/storage/MemorySet", "growTable", "(I)V"⟩ : MethodName) prog_17_method_20_code 7 none :: ws) ({ frames := 1, cells := 2, slots := 2048, locals := 15 } : Room)) (fun a U => a = #[(.ref a1), (.int p2)] ∧ Z.Warmed39 U.vm ∧ U.heap = h0) (fun _ _ _ _ _ => True) (fun _ U o U' => ∃ v L, o = .returned v ∧ Q6 Z a1 p2 w5 w7 u_slotShift_a1 kw h0 n0 v U'.heap L ∧ FrameEnd U o U' L ({ frames := 1, cells := 2, slots := 2048, locals := 15 } : Room).cells ({ frames := 1, cells := 2, slots := 2048, locals := 15 } : Room).slots) := by
  refine MetFree.of_bodySF (plainFor_of_name pn_6) hisR ?_
  intro p e s m args below meth c s₁ Bd hml0 hP hK
  obtain ⟨rfl, hZ, hh⟩ := hP
  have hx := Bd.exec
  have hby := Bd.bytes
  have hml : c.maxLocals = 7 := hml0
  have hown : s.vm.findClass "com/example/wheredb/wheredb/storage/MemorySet" = some m.cls := findClass_of_methodNamed Bd.named
  have hnm := (name_of_methodNamed Bd.named Bd.method).1
  have X0 : Stand p l e ({ frames := 1, cells := 2, slots := 2048, locals := 15 } : Room) s m #[(.ref a1), (.int p2)] below meth c s₁ [] 0 0 := Stand.of_body Bd
  have e0 : s₁.heap = h0 := by rw [← hh, Bd.state]; rfl
  have N0 := Fr.nil n0
  have pre0 : ∀ t, Steps p.tables e below (s₁.setTop (mkF m 0 #[.val (.ref a1), .val (.int p2), .unset, .unset, .unset, .unset, .unset] [])) t → Steps p.tables e below (s₁.setTop (entryFrame m #[(.ref a1), (.int p2)] 7)) t := fun t k => castTop (ef_6 m a1 p2) k
  have hneg : ¬ p2 < 0 := by rcases hp with rfl | rfl | rfl | rfl | rfl | rfl | rfl | rfl <;> decide
  have hcap : p2.toNatClampNeg ≤ 1024 := by rcases hp with rfl | rfl | rfl | rfl | rfl | rfl | rfl | rfl <;> decide
  obtain ⟨T3, h3, k3, X3, e3, E3, A3, st3⟩ := newP X0 hx hZ (hw _ (List.mem_of_getElem? (i := 16) rfl)) e0 (g := (mkF m 1 #[.val (.ref a1), .val (.int p2), .unset, .unset, .unset, .unset, .unset] [(.int p2)])) rfl (hb hby d6_1) rfl hneg (cap := 1024) hcap (by decide) (by decide) (by decide)
  obtain ⟨b3, g3⟩ : ∃ z, z = h0.size := ⟨_, rfl⟩
  rw [← g3] at A3 st3
  have V_b3 := Arv.new A3 hneg
  have g_b3 : n0 ≤ b3 := Nat.le_trans Z0 (Nat.le_of_eq g3.symm)
  have sz_b3 : h0.size ≤ b3 := (Nat.le_trans (Keep.refl h0 [a1]).1 (Nat.le_of_eq g3.symm))
  have K3 : Keep h0 h3 [a1] := (Keep.refl h0 [a1]).ext E3
  obtain ⟨T4, h4, k4, X4, e4, E4, A4, st4⟩ := newP X3 hx hZ (hw _ (List.mem_of_getElem? (i := 13) rfl)) e3 (g := (mkF m 5 #[.val (.ref a1), .val (.int p2), .val (.ref b3), .unset, .unset, .unset, .unset] [(.int p2)])) rfl (hb hby d6_5) rfl hneg (cap := 1024) hcap (by decide) (by decide) (by decide)
  obtain ⟨b4, g4⟩ : ∃ z, z = h3.size := ⟨_, rfl⟩
  rw [← g4] at A4 st4
  have V_b4 := Arv.new A4 hneg
  have g_b4 : n0 ≤ b4 := Nat.le_trans (Nat.le_trans Z0 E3.1) (Nat.le_of_eq g4.symm)
  have sz_b4 : h0.size ≤ b4 := (Nat.le_trans K3.1 (Nat.le_of_eq g4.symm))
  have K4 : Keep h0 h4 [a1] := K3.ext E4
  obtain ⟨T6, X6, e6, st6⟩ := getF X4 hx hZ hown (host := "") (Or.inl (hw _ (List.mem_of_getElem? (i := 17) rfl))) Via.refl e4 ((F_slotHashes_a1.ext E3).ext E4) (g := (mkF m 9 #[.val (.ref a1), .val (.int p2), .val (.ref b3), .val (.ref b4), .unset, .unset, .unset] [(.ref a1)])) rfl rfl (hb hby d6_9)
  obtain ⟨T8, X8, e8, st8⟩ := getF X6 hx hZ hown (host := "") (Or.inl (hw _ (List.mem_of_getElem? (i := 19) rfl))) Via.refl e6 ((F_slotCells_a1.ext E3).ext E4) (g := (mkF m 15 #[.val (.ref a1), .val (.int p2), .val (.ref b3), .val (.ref b4), .val (.ref w5), .unset, .unset] [(.ref a1)])) rfl rfl (hb hby d6_15)
  obtain ⟨T9, h9, X9, e9, W9, st9⟩ := putF X8 hx hZ hown (host := "") (Or.inl (hw _ (List.mem_of_getElem? (i := 17) rfl))) Via.refl e8 ((F_slotHashes_a1.ext E3).ext E4) ((E_a1.ext E3).ext E4) (Or.inl (hw _ (List.mem_of_getElem? (i := 18) rfl))) (hw _ (List.mem_of_getElem? (i := 1) rfl)) (ty := (.array .int)) (by decide) rfl rfl (g := (mkF m 22 #[.val (.ref a1), .val (.int p2), .val (.ref b3), .val (.ref b4), .val (.ref w5), .val (.ref w7), .unset] [(.ref b3), (.ref a1)])) rfl rfl (hb hby d6_22)
  have Fw9 := ((F_slotHashes_a1.ext E3).ext E4).same W9
  have K9 : Keep h0 h9 [a1] := K4.wr W9 (Or.inl (List.mem_of_getElem? (i := 0) rfl))
  have N9 := Fr.snoc X9 N0 g_a1
  obtain ⟨T10, h10, X10, e10, W10, st10⟩ := putF X9 hx hZ hown (host := "") (Or.inl (hw _ (List.mem_of_getElem? (i := 19) rfl))) Via.refl e9 (((F_slotCells_a1.ext E3).ext E4).other W9 (Or.inr (slot_ne (Or.inl (hw _ (List.mem_of_getElem? (i := 20) rfl))) (Or.inl (hw _ (List.mem_of_getElem? (i := 18) rfl))) (by decide) (t := (.array .long)) (t' := (.array .int)) (by decide) (by decide)))) (((E_a1.ext E3).ext E4).wr W9) (Or.inl (hw _ (List.mem_of_getElem? (i := 20) rfl))) (hw _ (List.mem_of_getElem? (i := 1) rfl)) (ty := (.array .long)) (by decide) rfl rfl (g := (mkF m 27 #[.val (.ref a1), .val (.int p2), .val (.ref b3), .val (.ref b4), .val (.ref w5), .val (.ref w7), .unset] [(.ref b4), (.ref a1)])) rfl rfl (hb hby d6_27)
  have Fw10 := (((F_slotCells_a1.ext E3).ext E4).other W9 (Or.inr (slot_ne (Or.inl (hw _ (List.mem_of_getElem? (i := 20) rfl))) (Or.inl (hw _ (List.mem_of_getElem? (i := 18) rfl))) (by decide) (t := (.array .long)) (t' := (.array .int)) (by decide) (by decide)))).same W10
  have K10 : Keep h0 h10 [a1] := K9.wr W10 (Or.inl (List.mem_of_getElem? (i := 0) rfl))
  have N10 := Fr.snoc X10 N9 g_a1
  obtain ⟨_, _, ⟨T11, L11, k11, n11⟩, -, X11, ⟨Lc11, hQ11, l11, y11, z11⟩, st11⟩ := Jvm.LawKit.callS X10 hx (y := (⟨"java/lang/Integer", "numberOfTrailingZeros", "(I)I"⟩ : MethodName)) hown (mvT hZ (hw _ (List.mem_of_getElem? (i := 21) rfl))) (mvT hZ (hw _ (List.mem_of_getElem? (i := 22) rfl))) (mvT hZ (hw _ (List.mem_of_getElem? (i := 23) rfl))) (mvT hZ (hw _ (List.mem_of_getElem? (i := 24) rfl))) (by decide) (backOf (W := 2) (rm3 l Z a0 hw [] p2  h10 n0 (Nat.le_trans (Nat.le_trans (Nat.le_trans (Nat.le_trans Z0 E3.1) E4.1) (Keep.of_wr W9).1) (Keep.of_wr W10).1) hp) hZ (hw _ (List.mem_of_getElem? (i := 24) rfl)) (hw _ (List.mem_of_getElem? (i := 23) rfl)) (by decide) (by decide)) (g := (mkF m 34 #[.val (.ref a1), .val (.int p2), .val (.ref b3), .val (.ref b4), .val (.ref w5), .val (.ref w7), .unset] [(.int p2), (.int (32 : Int32)), (.ref a1)])) rfl (by rw [hml]; rfl) (argsL := [(.int p2)]) (rest := [(.int (32 : Int32)), (.ref a1)]) (lenOf pd_6_1 rfl) rfl (by show 2 * 0 + _ ≤ _; exact Nat.le_of_eq rfl) (hb hby d6_34) (fun _ _ => ⟨rfl, e10, (by decide : 2 + 0 ≤ _), (by decide : 2048 + 0 ≤ _)⟩)
  dsimp only [Pt.U, Pt.locs, Pt.cells, Pt.slots] at X11 l11 y11 z11 st11 hQ11
  subst l11 y11 z11
  obtain ⟨r11, rfl, N11q, hh11⟩ := hQ11
  have N11 := Fr.app N10 N11q
  obtain ⟨T12, h12, X12, e12, W12, st12⟩ := putF X11 hx hZ hown (host := "") (Or.inl (hw _ (List.mem_of_getElem? (i := 26) rfl))) Via.refl hh11 ((((F_slotShift_a1.ext E3).ext E4).other W9 (Or.inr (slot_ne (Or.inl (hw _ (List.mem_of_getElem? (i := 27) rfl))) (Or.inl (hw _ (List.mem_of_getElem? (i := 18) rfl))) (by decide) (t := .int) (t' := (.array .int)) (by decide) (by decide)))).other W10 (Or.inr (slot_ne (Or.inl (hw _ (List.mem_of_getElem? (i := 27) rfl))) (Or.inl (hw _ (List.mem_of_getElem? (i := 20) rfl))) (by decide) (t := .int) (t' := (.array .long)) (by decide) (by decide)))) ((((E_a1.ext E3).ext E4).wr W9).wr W10) (Or.inl (hw _ (List.mem_of_getElem? (i := 27) rfl))) (hw _ (List.mem_of_getElem? (i := 1) rfl)) (ty := .int) (by decide) rfl rfl (g := (mkF m 38 #[.val (.ref a1), .val (.int p2), .val (.ref b3), .val (.ref b4), .val (.ref w5), .val (.ref w7), .unset] [(.int ((32 : Int32) - r11)), (.ref a1)])) rfl rfl (hb hby d6_38)
  have Fw12 := ((((F_slotShift_a1.ext E3).ext E4).other W9 (Or.inr (slot_ne (Or.inl (hw _ (List.mem_of_getElem? (i := 27) rfl))) (Or.inl (hw _ (List.mem_of_getElem? (i := 18) rfl))) (by decide) (t := .int) (t' := (.array .int)) (by decide) (by decide)))).other W10 (Or.inr (slot_ne (Or.inl (hw _ (List.mem_of_getElem? (i := 27) rfl))) (Or.inl (hw _ (List.mem_of_getElem? (i := 20) rfl))) (by decide) (t := .int) (t' := (.array .long)) (by decide) (by decide)))).same W12
  have K12 : Keep h0 h12 [a1] := K10.wr W12 (Or.inl (List.mem_of_getElem? (i := 0) rfl))
  have N12 := Fr.snoc X12 N11 g_a1
  have ne5 : w5 ≠ a1 := by
    obtain ⟨cz, Az, -⟩ := V5
    exact (ne_arr E_a1 (hw _ (List.mem_of_getElem? (i := 1) rfl)) Az).symm
  have V5' := ((((V5.ext E3).ext E4).other W9 ne5).other W10 ne5).other W12 ne5
  obtain ⟨cl_w5, Ar_w5, -, S_w5, N_w5, H_w5, -⟩ := V5'
  have hin56_0 : ¬ ((0 : Int32) < 0 ∨ cl_w5.slots.size ≤ ((0 : Int32)).toNatClampNeg) := inb_of S_w5 ⟨by decide, by decide⟩
  have hin56_1 : ¬ ((1 : Int32) < 0 ∨ cl_w5.slots.size ≤ ((1 : Int32)).toNatClampNeg) := inb_of S_w5 ⟨by decide, by decide⟩
  have hin56_2 : ¬ ((2 : Int32) < 0 ∨ cl_w5.slots.size ≤ ((2 : Int32)).toNatClampNeg) := inb_of S_w5 ⟨by decide, by decide⟩
  have hin56_3 : ¬ ((3 : Int32) < 0 ∨ cl_w5.slots.size ≤ ((3 : Int32)).toNatClampNeg) := inb_of S_w5 ⟨by decide, by decide⟩
  have hin56_4 : ¬ ((4 : Int32) < 0 ∨ cl_w5.slots.size ≤ ((4 : Int32)).toNatClampNeg) := inb_of S_w5 ⟨by decide, by decide⟩
  have hin56_5 : ¬ ((5 : Int32) < 0 ∨ cl_w5.slots.size ≤ ((5 : Int32)).toNatClampNeg) := inb_of S_w5 ⟨by decide, by decide⟩
  have hin56_6 : ¬ ((6 : Int32) < 0 ∨ cl_w5.slots.size ≤ ((6 : Int32)).toNatClampNeg) := inb_of S_w5 ⟨by decide, by decide⟩
  have hin56_7 : ¬ ((7 : Int32) < 0 ∨ cl_w5.slots.size ≤ ((7 : Int32)).toNatClampNeg) := inb_of S_w5 ⟨by decide, by decide⟩
  obtain ⟨fs, hr, hrun, hended, hW, hsame⟩ := X12.leave (v := none) (fun _ => rfl)
  refine ⟨_, _, pre0 _ ?_, hrun, hended, _, _, rfl, ?_, ⟨_, rfl⟩, hW, hsame.mono (by decide) (by decide)⟩
  · show Steps p.tables e below (s₁.setTop (mkF m 0 #[.val (.ref a1), .val (.int p2), .unset, .unset, .unset, .unset, .unset] [])) _
    refine XS.iloadN X0.here hx rfl (hb hby d6_0) rfl ?_
    show Steps p.tables e below (s₁.setTop (mkF m 1 #[.val (.ref a1), .val (.int p2), .unset, .unset, .unset, .unset, .unset] [(.int p2)])) _
    refine st3 _ ?_
    show Steps p.tables e below (T3.setTop (mkF m 3 #[.val (.ref a1), .val (.int p2), .unset, .unset, .unset, .unset, .unset] [(.ref b3)])) _
    refine XS.astoreN X3.here hx rfl (hb hby d6_3) rfl rfl (l' := #[.val (.ref a1), .val (.int p2), .val (.ref b3), .unset, .unset, .unset, .unset]) rfl ?_
    show Steps p.tables e below (T3.setTop (mkF m 4 #[.val (.ref a1), .val (.int p2), .val (.ref b3), .unset, .unset, .unset, .unset] [])) _
    refine XS.iloadN X3.here hx rfl (hb hby d6_4) rfl ?_
    show Steps p.tables e below (T3.setTop (mkF m 5 #[.val (.ref a1), .val (.int p2), .val (.ref b3), .unset, .unset, .unset, .unset] [(.int p2)])) _
    refine st4 _ ?_
    show Steps p.tables e below (T4.setTop (mkF m 7 #[.val (.ref a1), .val (.int p2), .val (.ref b3), .unset, .unset, .unset, .unset] [(.ref b4)])) _
    refine XS.astoreN X4.here hx rfl (hb hby d6_7) rfl rfl (l' := #[.val (.ref a1), .val (.int p2), .val (.ref b3), .val (.ref b4), .unset, .unset, .unset]) rfl ?_
    show Steps p.tables e below (T4.setTop (mkF m 8 #[.val (.ref a1), .val (.int p2), .val (.ref b3), .val (.ref b4), .unset, .unset, .unset] [])) _
    refine XS.aloadN X4.here hx rfl (hb hby d6_8) rfl rfl ?_
    show Steps p.tables e below (T4.setTop (mkF m 9 #[.val (.ref a1), .val (.int p2), .val (.ref b3), .val (.ref b4), .unset, .unset, .unset] [(.ref a1)])) _
    refine st6 _ ?_
    show Steps p.tables e below (T6.setTop (mkF m 12 #[.val (.ref a1), .val (.int p2), .val (.ref b3), .val (.ref b4), .unset, .unset, .unset] [(.ref w5)])) _
    refine XS.astore X6.here hx rfl (hb hby d6_12) rfl rfl (l' := #[.val (.ref a1), .val (.int p2), .val (.ref b3), .val (.ref b4), .val (.ref w5), .unset, .unset]) rfl ?_
    show Steps p.tables e below (T6.setTop (mkF m 14 #[.val (.ref a1), .val (.int p2), .val (.ref b3), .val (.ref b4), .val (.ref w5), .unset, .unset] [])) _
    refine XS.aloadN X6.here hx rfl (hb hby d6_14) rfl rfl ?_
    show Steps p.tables e below (T6.setTop (mkF m 15 #[.val (.ref a1), .val (.int p2), .val (.ref b3), .val (.ref b4), .val (.ref w5), .unset, .unset] [(.ref a1)])) _
    refine st8 _ ?_
    show Steps p.tables e below (T8.setTop (mkF m 18 #[.val (.ref a1), .val (.int p2), .val (.ref b3), .val (.ref b4), .val (.ref w5), .unset, .unset] [(.ref w7)])) _
    refine XS.astore X8.here hx rfl (hb hby d6_18) rfl rfl (l' := #[.val (.ref a1), .val (.int p2), .val (.ref b3), .val (.ref b4), .val (.ref w5), .val (.ref w7), .unset]) rfl ?_
    show Steps p.tables e below (T8.setTop (mkF m 20 #[.val (.ref a1), .val (.int p2), .val (.ref b3), .val (.ref b4), .val (.ref w5), .val (.ref w7), .unset] [])) _
    refine XS.aloadN X8.here hx rfl (hb hby d6_20) rfl rfl ?_
    show Steps p.tables e below (T8.setTop (mkF m 21 #[.val (.ref a1), .val (.int p2), .val (.ref b3), .val (.ref b4), .val (.ref w5), .val (.ref w7), .unset] [(.ref a1)])) _
    refine XS.aloadN X8.here hx rfl (hb hby d6_21) rfl rfl ?_
    show Steps p.tables e below (T8.setTop (mkF m 22 #[.val (.ref a1), .val (.int p2), .val (.ref b3), .val (.ref b4), .val (.ref w5), .val (.ref w7), .unset] [(.ref b3), (.ref a1)])) _
    refine st9 _ ?_
    show Steps p.tables e below (T9.setTop (mkF m 25 #[.val (.ref a1), .val (.int p2), .val (.ref b3), .val (.ref b4), .val (.ref w5), .val (.ref w7), .unset] [])) _
    refine XS.aloadN X9.here hx rfl (hb hby d6_25) rfl rfl ?_
    show Steps p.tables e below (T9.setTop (mkF m 26 #[.val (.ref a1), .val (.int p2), .val (.ref b3), .val (.ref b4), .val (.ref w5), .val (.ref w7), .unset] [(.ref a1)])) _
    refine XS.aloadN X9.here hx rfl (hb hby d6_26) rfl rfl ?_
    show Steps p.tables e below (T9.setTop (mkF m 27 #[.val (.ref a1), .val (.int p2), .val (.ref b3), .val (.ref b4), .val (.ref w5), .val (.ref w7), .unset] [(.ref b4), (.ref a1)])) _
    refine st10 _ ?_
    show Steps p.tables e below (T10.setTop (mkF m 30 #[.val (.ref a1), .val (.int p2), .val (.ref b3), .val (.ref b4), .val (.ref w5), .val (.ref w7), .unset] [])) _
    refine XS.aloadN X10.here hx rfl (hb hby d6_30) rfl rfl ?_
    show Steps p.tables e below (T10.setTop (mkF m 31 #[.val (.ref a1), .val (.int p2), .val (.ref b3), .val (.ref b4), .val (.ref w5), .val (.ref w7), .unset] [(.ref a1)])) _
    refine XS.bipush X10.here hx rfl (hb hby d6_31) ?_
    show Steps p.tables e below (T10.setTop (mkF m 33 #[.val (.ref a1), .val (.int p2), .val (.ref b3), .val (.ref b4), .val (.ref w5), .val (.ref w7), .unset] [(.int (32 : Int32)), (.ref a1)])) _
    refine XS.iloadN X10.here hx rfl (hb hby d6_33) rfl ?_
    show Steps p.tables e below (T10.setTop (mkF m 34 #[.val (.ref a1), .val (.int p2), .val (.ref b3), .val (.ref b4), .val (.ref w5), .val (.ref w7), .unset] [(.int p2), (.int (32 : Int32)), (.ref a1)])) _
    refine st11 _ ?_
    show Steps p.tables e below (T11.setTop (mkF m 37 #[.val (.ref a1), .val (.int p2), .val (.ref b3), .val (.ref b4), .val (.ref w5), .val (.ref w7), .unset] [(.int r11), (.int (32 : Int32)), (.ref a1)])) _
    refine XS.isub X11.here hx rfl (hb hby d6_37) rfl ?_
    show Steps p.tables e below (T11.setTop (mkF m 38 #[.val (.ref a1), .val (.int p2), .val (.ref b3), .val (.ref b4), .val (.ref w5), .val (.ref w7), .unset] [(.int ((32 : Int32) - r11)), (.ref a1)])) _
    refine st12 _ ?_
    show Steps p.tables e below (T12.setTop (mkF m 41 #[.val (.ref a1), .val (.int p2), .val (.ref b3), .val (.ref b4), .val (.ref w5), .val (.ref w7), .unset] [])) _
    refine XS.iconst X12.here hx rfl (hb hby d6_41) ?_
    show Steps p.tables e below (T12.setTop (mkF m 42 #[.val (.ref a1), .val (.int p2), .val (.ref b3), .val (.ref b4), .val (.ref w5), .val (.ref w7), .unset] [(.int (0 : Int32))])) _
    refine XS.istore X12.here hx rfl (hb hby d6_42) rfl (l' := #[.val (.ref a1), .val (.int p2), .val (.ref b3), .val (.ref b4), .val (.ref w5), .val (.ref w7), .val (.int (0 : Int32))]) rfl ?_
    show Steps p.tables e below (T12.setTop (mkF m 44 #[.val (.ref a1), .val (.int p2), .val (.ref b3), .val (.ref b4), .val (.ref w5), .val (.ref w7), .val (.int (0 : Int32))] [])) _
    refine tn6_44_44 (.val (.ref a1)) (.val (.int p2)) (.val (.ref b3)) (.val (.ref b4)) w5 (.val (.ref w7)) (0 : Int32) (1 : Int32) cl_w5 (8 : Int32) (0 : Int32) X12 hx hZ hw hby hml hown e12 Ar_w5 S_w5 N_w5 hin56_0 (H_w5.at hin56_0 rfl) (by decide) rfl (by decide) _ ?_
    show Steps p.tables e below (T12.setTop (mkF m 44 #[.val (.ref a1), .val (.int p2), .val (.ref b3), .val (.ref b4), .val (.ref w5), .val (.ref w7), .val (.int (1 : Int32))] [])) _
    refine tn6_44_44 (.val (.ref a1)) (.val (.int p2)) (.val (.ref b3)) (.val (.ref b4)) w5 (.val (.ref w7)) (1 : Int32) (2 : Int32) cl_w5 (8 : Int32) (0 : Int32) X12 hx hZ hw hby hml hown e12 Ar_w5 S_w5 N_w5 hin56_1 (H_w5.at hin56_1 rfl) (by decide) rfl (by decide) _ ?_
    show Steps p.tables e below (T12.setTop (mkF m 44 #[.val (.ref a1), .val (.int p2), .val (.ref b3), .val (.ref b4), .val (.ref w5), .val (.ref w7), .val (.int (2 : Int32))] [])) _
    refine tn6_44_44 (.val (.ref a1)) (.val (.int p2)) (.val (.ref b3)) (.val (.ref b4)) w5 (.val (.ref w7)) (2 : Int32) (3 : Int32) cl_w5 (8 : Int32) (0 : Int32) X12 hx hZ hw hby hml hown e12 Ar_w5 S_w5 N_w5 hin56_2 (H_w5.at hin56_2 rfl) (by decide) rfl (by decide) _ ?_
    show Steps p.tables e below (T12.setTop (mkF m 44 #[.val (.ref a1), .val (.int p2), .val (.ref b3), .val (.ref b4), .val (.ref w5), .val (.ref w7), .val (.int (3 : Int32))] [])) _
    refine tn6_44_44 (.val (.ref a1)) (.val (.int p2)) (.val (.ref b3)) (.val (.ref b4)) w5 (.val (.ref w7)) (3 : Int32) (4 : Int32) cl_w5 (8 : Int32) (0 : Int32) X12 hx hZ hw hby hml hown e12 Ar_w5 S_w5 N_w5 hin56_3 (H_w5.at hin56_3 rfl) (by decide) rfl (by decide) _ ?_
    show Steps p.tables e below (T12.setTop (mkF m 44 #[.val (.ref a1), .val (.int p2), .val (.ref b3), .val (.ref b4), .val (.ref w5), .val (.ref w7), .val (.int (4 : Int32))] [])) _
    refine tn6_44_44 (.val (.ref a1)) (.val (.int p2)) (.val (.ref b3)) (.val (.ref b4)) w5 (.val (.ref w7)) (4 : Int32) (5 : Int32) cl_w5 (8 : Int32) (0 : Int32) X12 hx hZ hw hby hml hown e12 Ar_w5 S_w5 N_w5 hin56_4 (H_w5.at hin56_4 rfl) (by decide) rfl (by decide) _ ?_
    show Steps p.tables e below (T12.setTop (mkF m 44 #[.val (.ref a1), .val (.int p2), .val (.ref b3), .val (.ref b4), .val (.ref w5), .val (.ref w7), .val (.int (5 : Int32))] [])) _
    refine tn6_44_44 (.val (.ref a1)) (.val (.int p2)) (.val (.ref b3)) (.val (.ref b4)) w5 (.val (.ref w7)) (5 : Int32) (6 : Int32) cl_w5 (8 : Int32) (0 : Int32) X12 hx hZ hw hby hml hown e12 Ar_w5 S_w5 N_w5 hin56_5 (H_w5.at hin56_5 rfl) (by decide) rfl (by decide) _ ?_
    show Steps p.tables e below (T12.setTop (mkF m 44 #[.val (.ref a1), .val (.int p2), .val (.ref b3), .val (.ref b4), .val (.ref w5), .val (.ref w7), .val (.int (6 : Int32))] [])) _
    refine tn6_44_44 (.val (.ref a1)) (.val (.int p2)) (.val (.ref b3)) (.val (.ref b4)) w5 (.val (.ref w7)) (6 : Int32) (7 : Int32) cl_w5 (8 : Int32) (0 : Int32) X12 hx hZ hw hby hml hown e12 Ar_w5 S_w5 N_w5 hin56_6 (H_w5.at hin56_6 rfl) (by decide) rfl (by decide) _ ?_
    show Steps p.tables e below (T12.setTop (mkF m 44 #[.val (.ref a1), .val (.int p2), .val (.ref b3), .val (.ref b4), .val (.ref w5), .val (.ref w7), .val (.int (7 : Int32))] [])) _
    refine tn6_44_44 (.val (.ref a1)) (.val (.int p2)) (.val (.ref b3)) (.val (.ref b4)) w5 (.val (.ref w7)) (7 : Int32) (8 : Int32) cl_w5 (8 : Int32) (0 : Int32) X12 hx hZ hw hby hml hown e12 Ar_w5 S_w5 N_w5 hin56_7 (H_w5.at hin56_7 rfl) (by decide) rfl (by decide) _ ?_
    show Steps p.tables e below (T12.setTop (mkF m 44 #[.val (.ref a1), .val (.int p2), .val (.ref b3), .val (.ref b4), .val (.ref w5), .val (.ref w7), .val (.int (8 : Int32))] [])) _
    refine XS.iload X12.here hx rfl (hb hby d6_44) rfl ?_
    show Steps p.tables e below (T12.setTop (mkF m 46 #[.val (.ref a1), .val (.int p2), .val (.ref b3), .val (.ref b4), .val (.ref w5), .val (.ref w7), .val (.int (8 : Int32))] [(.int (8 : Int32))])) _
    refine XS.aload X12.here hx rfl (hb hby d6_46) rfl rfl ?_
    show Steps p.tables e below (T12.setTop (mkF m 48 #[.val (.ref a1), .val (.int p2), .val (.ref b3), .val (.ref b4), .val (.ref w5), .val (.ref w7), .val (.int (8 : Int32))] [(.ref w5), (.int (8 : Int32))])) _
    refine X12.arraylength hx (by rw [e12]; exact Ar_w5.1) (State.isArrayOf_alike hZ.alike Ar_w5.2.1) (g := (mkF m 48 #[.val (.ref a1), .val (.int p2), .val (.ref b3), .val (.ref b4), .val (.ref w5), .val (.ref w7), .val (.int (8 : Int32))] [(.ref w5), (.int (8 : Int32))])) rfl rfl (hb hby d6_48) _ ?_
    rw [len_of S_w5 N_w5]
    show Steps p.tables e below (T12.setTop (mkF m 49 #[.val (.ref a1), .val (.int p2), .val (.ref b3), .val (.ref b4), .val (.ref w5), .val (.ref w7), .val (.int (8 : Int32))] [(.int (8 : Int32)), (.int (8 : Int32))])) _
    refine XS.icmpYes X12.here hx rfl (pc0 := 49) (pc' := 80) rfl (hb hby d6_49) rfl (flt (by decide : ¬ ((8 : Int32) < (8 : Int32)))).2.1 (by decide) (by decide) ?_
    show Steps p.tables e below (T12.setTop (mkF m 80 #[.val (.ref a1), .val (.int p2), .val (.ref b3), .val (.ref b4), .val (.ref w5), .val (.ref w7), .val (.int (8 : Int32))] [])) _
    exact X12.returnOut hx Bd.returns (hb hby d6_80) hr
  · show Q6 Z a1 p2 w5 w7 u_slotShift_a1 kw h0 n0 _ T12.heap _
    rw [e12]
    exact ⟨rfl, N12, K12, (((((E_a1.ext E3).ext E4).wr W9).wr W10).wr W12), b3, _, ((Fw9.other W10 (Or.inr (slot_ne (Or.inl (hw _ (List.mem_of_getElem? (i := 18) rfl))) (Or.inl (hw _ (List.mem_of_getElem? (i := 20) rfl))) (by decide) (t := (.array .int)) (t' := (.array .long)) (by decide) (by decide)))).other W12 (Or.inr (slot_ne (Or.inl (hw _ (List.mem_of_getElem? (i := 18) rfl))) (Or.inl (hw _ (List.mem_of_getElem? (i := 27) rfl))) (by decide) (t := (.array .int)) (t' := .int) (by decide) (by decide)))), ((((V_b3.ext E4).other W9 (Ne.symm (Nat.ne_of_lt (Nat.lt_of_lt_of_le E_a1.lt (Nat.le_of_eq g3.symm))))).other W10 (Ne.symm (Nat.ne_of_lt (Nat.lt_of_lt_of_le E_a1.lt (Nat.le_of_eq g3.symm))))).other W12 (Ne.symm (Nat.ne_of_lt (Nat.lt_of_lt_of_le E_a1.lt (Nat.le_of_eq g3.symm)))))⟩
def Q5 (Z : State) (a1 : Addr) (zz : Int32) (h0 : Heap) (n0 : Nat) (v : Option Value) (h : Heap) (L : List Loc) : Prop := v = none ∧ Fr n0 L ∧ Keep h0 h [a1] ∧ Exa Z h a1 "com/example/wheredb/wheredb/storage/MemorySet" ∧ ∃ (b : Addr) (k : ClassId), Fld Z h a1 "com/example/wheredb/wheredb/storage/MemorySet" "slotHashes" "[I" (.ref b) ∧ Arv Z h b k .int zz [] (.int (0 : Int32))
theorem d5_0 : decode prog_17_method_5_code 0 = .ok (.lload_n 1, 1) := by decide +kernel
theorem d5_1 : decode prog_17_method_5_code 1 = .ok (.ldc2_w 64, 3) := by decide +kernel
theorem d5_4 : decode prog_17_method_5_code 4 = .ok (.lcmp, 1) := by decide +kernel
theorem d5_5 : decode prog_17_method_5_code 5 = .ok (.ifCond .le 13, 3) := by decide +kernel
theorem d5_18 : decode prog_17_method_5_code 18 = .ok (.aload_n 0, 1) := by decide +kernel
theorem d5_19 : decode prog_17_method_5_code 19 = .ok (.getfield 19, 3) := by decide +kernel
theorem d5_22 : decode prog_17_method_5_code 22 = .ok (.arraylength, 1) := by decide +kernel
theorem d5_23 : decode prog_17_method_5_code 23 = .ok (.istore_n 3, 1) := by decide +kernel
theorem d5_24 : decode prog_17_method_5_code 24 = .ok (.iload_n 3, 1) := by decide +kernel
theorem d5_25 : decode prog_17_method_5_code 25 = .ok (.iconst 4, 1) := by decide +kernel
theorem d5_26 : decode prog_17_method_5_code 26 = .ok (.idiv, 1) := by decide +kernel
theorem d5_27 : decode prog_17_method_5_code 27 = .ok (.iconst 3, 1) := by decide +kernel
theorem d5_28 : decode prog_17_method_5_code 28 = .ok (.imul, 1) := by decide +kernel
theorem d5_29 : decode prog_17_method_5_code 29 = .ok (.i2l, 1) := by decide +kernel
theorem d5_30 : decode prog_17_method_5_code 30 = .ok (.lload_n 1, 1) := by decide +kernel
theorem d5_31 : decode prog_17_method_5_code 31 = .ok (.lcmp, 1) := by decide +kernel
theorem d5_32 : decode prog_17_method_5_code 32 = .ok (.ifCond .ge 10, 3) := by decide +kernel
theorem d5_42 : decode prog_17_method_5_code 42 = .ok (.iload_n 3, 1) := by decide +kernel
theorem d5_43 : decode prog_17_method_5_code 43 = .ok (.aload_n 0, 1) := by decide +kernel
theorem d5_44 : decode prog_17_method_5_code 44 = .ok (.getfield 19, 3) := by decide +kernel
theorem d5_47 : decode prog_17_method_5_code 47 = .ok (.arraylength, 1) := by decide +kernel
theorem d5_48 : decode prog_17_method_5_code 48 = .ok (.if_icmp .le 8, 3) := by decide +kernel
theorem d5_56 : decode prog_17_method_5_code 56 = .ok (.return_, 1) := by decide +kernel
theorem pn_5 : plainName "com/example/wheredb/wheredb/storage/MemorySet" = true := by first | (simp [plainName, overriddenIn]; done) | decide +kernel
theorem ef_5 (m : MethodId) (x0 : Addr) (x1 : Int64) : entryFrame m #[(.ref x0), (.long x1)] 4 = mkF m 0 #[.val (.ref x0), .val (.long x1), .second, .unset] [] := by first | (simp [entryFrame, mkF, argsToLocals, Value.category]; done) | rfl
set_option maxRecDepth 65536 in
set_option maxHeartbeats 40000000 in
theorem rm5_0 (l : Launch) (Z : State) (a0 : Array Value) (hw : ∀ d ∈ tables_1, d.before a0 Z = true) (ws : List Jvm.Cond) (a1 : Addr) (q2 : Int64) (w3 : Addr) (cl_w3 : Cell) (kw : ClassId) (w9 : Addr) (u9 zz : Int32) (h0 : Heap) (n0 : Nat) (Z0 : n0 ≤ h0.size) (F_slotHashes_a1 : Fld Z h0 a1 "com/example/wheredb/wheredb/storage/MemorySet" "slotHashes" "[I" (.ref w3)) (Ar_w3 : Arr Z h0 w3 cl_w3 .int) (S_w3 : cl_w3.slots.size = (8 : Int32).toNatClampNeg) (N_w3 : ¬ (8 : Int32) < 0) (E_a1 : Exa Z h0 a1 "com/example/wheredb/wheredb/storage/MemorySet") (F_slotCells_a1 : Fld Z h0 a1 "com/example/wheredb/wheredb/storage/MemorySet" "slotCells" "[J" (.ref w9)) (F_slotShift_a1 : Fld Z h0 a1 "com/example/wheredb/wheredb/storage/MemorySet" "slotShift" "I" (.int u9)) (g_a1 : n0 ≤ a1) (V5 : Arv Z h0 w3 kw .int (8 : Int32) [] (.int (0 : Int32))) (hz : (8 : Int32) = zz) (hc5 : ¬ ((0 : Int32) < (lcmpW q2 (805306368 : Int64)))) (hnz26 : ¬ ((4 : Int32) = (0 : Int32))) (hc32 : ¬ ((lcmpW ((((8 : Int32) / (4 : Int32)) * (3 : Int32)).toInt64) q2) < (0 : Int32))) (hc48 : ¬ ((8 : Int32) < (8 : Int32))) :
    MetFree l (⟨"com/example/wheredb/wheredb/storage/MemorySet", "reserve", "(J)V"⟩ : MethodName) (head1 (Jvm.Cond.code (⟨"com/example/wheredb/wheredb/storage/MemorySet", "reserve", "(J)V"⟩ : MethodName) prog_17_method_5_code 4 none :: ws) ({ frames := 2, cells := 2, slots := 2048, locals := 33 } : Room)) (fun a U => a = #[(.ref a1), (.long q2)] ∧ Z.Warmed39 U.vm ∧ U.heap = h0) (fun _ _ _ _ _ => True) (fun _ U o U' => ∃ v L, o = .returned v ∧ Q5 Z a1 zz h0 n0 v U'.heap L ∧ FrameEnd U o U' L ({ frames := 2, cells := 2, slots := 2048, locals := 33 } : Room).cells ({ frames := 2, cells := 2, slots := 2048, locals := 33 } : Room).slots) := by
  refine MetFree.of_bodySF (plainFor_of_name pn_5) hisR ?_
  intro p e s m args below meth c s₁ Bd hml0 hP hK
  obtain ⟨rfl, hZ, hh⟩ := hP
  have hx := Bd.exec
  have hby := Bd.bytes
  have hml : c.maxLocals = 4 := hml0
  have hown : s.vm.findClass "com/example/wheredb/wheredb/storage/MemorySet" = some m.cls := findClass_of_methodNamed Bd.named
  have hnm := (name_of_methodNamed Bd.named Bd.method).1
  have X0 : Stand p l e ({ frames := 2, cells := 2, slots := 2048, locals := 33 } : Room) s m #[(.ref a1), (.long q2)] below meth c s₁ [] 0 0 := Stand.of_body Bd
  have e0 : s₁.heap = h0 := by rw [← hh, Bd.state]; rfl
  have N0 := Fr.nil n0
  have pre0 : ∀ t, Steps p.tables e below (s₁.setTop (mkF m 0 #[.val (.ref a1), .val (.long q2), .second, .unset] [])) t → Steps p.tables e below (s₁.setTop (entryFrame m #[(.ref a1), (.long q2)] 4)) t := fun t k => castTop (ef_5 m a1 q2) k
  obtain ⟨T4, X4, e4, st4⟩ := getF X0 hx hZ hown (host := "") (Or.inl (hw _ (List.mem_of_getElem? (i := 17) rfl))) Via.refl e0 F_slotHashes_a1 (g := (mkF m 19 #[.val (.ref a1), .val (.long q2), .second, .unset] [(.ref a1)])) rfl rfl (hb hby d5_19)
  obtain ⟨T5, X5, e5, st5⟩ := getF X4 hx hZ hown (host := "") (Or.inl (hw _ (List.mem_of_getElem? (i := 17) rfl))) Via.refl e4 F_slotHashes_a1 (g := (mkF m 44 #[.val (.ref a1), .val (.long q2), .second, .val (.int (8 : Int32))] [(.ref a1), (.int (8 : Int32))])) rfl rfl (hb hby d5_44)
  obtain ⟨fs, hr, hrun, hended, hW, hsame⟩ := X5.leave (v := none) (fun _ => rfl)
  refine ⟨_, _, pre0 _ ?_, hrun, hended, _, _, rfl, ?_, ⟨_, rfl⟩, hW, hsame.mono (by decide) (by decide)⟩
  · show Steps p.tables e below (s₁.setTop (mkF m 0 #[.val (.ref a1), .val (.long q2), .second, .unset] [])) _
    refine XS.lloadN X0.here hx rfl (hb hby d5_0) rfl ?_
    show Steps p.tables e below (s₁.setTop (mkF m 1 #[.val (.ref a1), .val (.long q2), .second, .unset] [(.long q2)])) _
    refine X0.ldc2Long hx hown (mvT hZ (hw _ (List.mem_of_getElem? (i := 39) rfl))) (g := (mkF m 1 #[.val (.ref a1), .val (.long q2), .second, .unset] [(.long q2)])) rfl (hb hby d5_1) _ ?_
    show Steps p.tables e below (s₁.setTop (mkF m 4 #[.val (.ref a1), .val (.long q2), .second, .unset] [(.long (805306368 : Int64)), (.long q2)])) _
    refine XS.lcmp X0.here hx rfl (hb hby d5_4) rfl ?_
    show Steps p.tables e below (s₁.setTop (mkF m 5 #[.val (.ref a1), .val (.long q2), .second, .unset] [(.int (lcmpW q2 (805306368 : Int64)))])) _
    refine XS.ifYes X0.here hx rfl (pc0 := 5) (pc' := 18) rfl (hb hby d5_5) rfl ((if0 _ _).trans (flt hc5).2.2.2) (by decide) (by decide) ?_
    show Steps p.tables e below (s₁.setTop (mkF m 18 #[.val (.ref a1), .val (.long q2), .second, .unset] [])) _
    refine XS.aloadN X0.here hx rfl (hb hby d5_18) rfl rfl ?_
    show Steps p.tables e below (s₁.setTop (mkF m 19 #[.val (.ref a1), .val (.long q2), .second, .unset] [(.ref a1)])) _
    refine st4 _ ?_
    show Steps p.tables e below (T4.setTop (mkF m 22 #[.val (.ref a1), .val (.long q2), .second, .unset] [(.ref w3)])) _
    refine X4.arraylength hx (by rw [e4]; exact Ar_w3.1) (State.isArrayOf_alike hZ.alike Ar_w3.2.1) (g := (mkF m 22 #[.val (.ref a1), .val (.long q2), .second, .unset] [(.ref w3)])) rfl rfl (hb hby d5_22) _ ?_
    rw [len_of S_w3 N_w3]
    show Steps p.tables e below (T4.setTop (mkF m 23 #[.val (.ref a1), .val (.long q2), .second, .unset] [(.int (8 : Int32))])) _
    refine XS.istoreN X4.here hx rfl (hb hby d5_23) rfl (l' := #[.val (.ref a1), .val (.long q2), .second, .val (.int (8 : Int32))]) rfl ?_
    show Steps p.tables e below (T4.setTop (mkF m 24 #[.val (.ref a1), .val (.long q2), .second, .val (.int (8 : Int32))] [])) _
    refine XS.iloadN X4.here hx rfl (hb hby d5_24) rfl ?_
    show Steps p.tables e below (T4.setTop (mkF m 25 #[.val (.ref a1), .val (.long q2), .second, .val (.int (8 : Int32))] [(.int (8 : Int32))])) _
    refine XS.iconst X4.here hx rfl (hb hby d5_25) ?_
    show Steps p.tables e below (T4.setTop (mkF m 26 #[.val (.ref a1), .val (.long q2), .second, .val (.int (8 : Int32))] [(.int (4 : Int32)), (.int (8 : Int32))])) _
    refine XS.idiv X4.here hx rfl (hb hby d5_26) rfl hnz26 ?_
    show Steps p.tables e below (T4.setTop (mkF m 27 #[.val (.ref a1), .val (.long q2), .second, .val (.int (8 : Int32))] [(.int ((8 : Int32) / (4 : Int32)))])) _
    refine XS.iconst X4.here hx rfl (hb hby d5_27) ?_
    show Steps p.tables e below (T4.setTop (mkF m 28 #[.val (.ref a1), .val (.long q2), .second, .val (.int (8 : Int32))] [(.int (3 : Int32)), (.int ((8 : Int32) / (4 : Int32)))])) _
    refine XS.imul X4.here hx rfl (hb hby d5_28) rfl ?_
    show Steps p.tables e below (T4.setTop (mkF m 29 #[.val (.ref a1), .val (.long q2), .second, .val (.int (8 : Int32))] [(.int (((8 : Int32) / (4 : Int32)) * (3 : Int32)))])) _
    refine XS.i2l X4.here hx rfl (hb hby d5_29) rfl ?_
    show Steps p.tables e below (T4.setTop (mkF m 30 #[.val (.ref a1), .val (.long q2), .second, .val (.int (8 : Int32))] [(.long ((((8 : Int32) / (4 : Int32)) * (3 : Int32)).toInt64))])) _
    refine XS.lloadN X4.here hx rfl (hb hby d5_30) rfl ?_
    show Steps p.tables e below (T4.setTop (mkF m 31 #[.val (.ref a1), .val (.long q2), .second, .val (.int (8 : Int32))] [(.long q2), (.long ((((8 : Int32) / (4 : Int32)) * (3 : Int32)).toInt64))])) _
    refine XS.lcmp X4.here hx rfl (hb hby d5_31) rfl ?_
    show Steps p.tables e below (T4.setTop (mkF m 32 #[.val (.ref a1), .val (.long q2), .second, .val (.int (8 : Int32))] [(.int (lcmpW ((((8 : Int32) / (4 : Int32)) * (3 : Int32)).toInt64) q2))])) _
    refine XS.ifYes X4.here hx rfl (pc0 := 32) (pc' := 42) rfl (hb hby d5_32) rfl ((if0 _ _).trans (flt hc32).2.1) (by decide) (by decide) ?_
    show Steps p.tables e below (T4.setTop (mkF m 42 #[.val (.ref a1), .val (.long q2), .second, .val (.int (8 : Int32))] [])) _
    refine XS.iloadN X4.here hx rfl (hb hby d5_42) rfl ?_
    show Steps p.tables e below (T4.setTop (mkF m 43 #[.val (.ref a1), .val (.long q2), .second, .val (.int (8 : Int32))] [(.int (8 : Int32))])) _
    refine XS.aloadN X4.here hx rfl (hb hby d5_43) rfl rfl ?_
    show Steps p.tables e below (T4.setTop (mkF m 44 #[.val (.ref a1), .val (.long q2), .second, .val (.int (8 : Int32))] [(.ref a1), (.int (8 : Int32))])) _
    refine st5 _ ?_
    show Steps p.tables e below (T5.setTop (mkF m 47 #[.val (.ref a1), .val (.long q2), .second, .val (.int (8 : Int32))] [(.ref w3), (.int (8 : Int32))])) _
    refine X5.arraylength hx (by rw [e5]; exact Ar_w3.1) (State.isArrayOf_alike hZ.alike Ar_w3.2.1) (g := (mkF m 47 #[.val (.ref a1), .val (.long q2), .second, .val (.int (8 : Int32))] [(.ref w3), (.int (8 : Int32))])) rfl rfl (hb hby d5_47) _ ?_
    rw [len_of S_w3 N_w3]
    show Steps p.tables e below (T5.setTop (mkF m 48 #[.val (.ref a1), .val (.long q2), .second, .val (.int (8 : Int32))] [(.int (8 : Int32)), (.int (8 : Int32))])) _
    refine XS.icmpYes X5.here hx rfl (pc0 := 48) (pc' := 56) rfl (hb hby d5_48) rfl (flt hc48).2.2.2 (by decide) (by decide) ?_
    show Steps p.tables e below (T5.setTop (mkF m 56 #[.val (.ref a1), .val (.long q2), .second, .val (.int (8 : Int32))] [])) _
    exact X5.returnOut hx Bd.returns (hb hby d5_56) hr
  · show Q5 Z a1 zz h0 n0 _ T5.heap _
    rw [e5]
    exact ⟨rfl, N0, Keep.refl h0 [a1], E_a1, w3, kw, F_slotHashes_a1, hz ▸ V5⟩
theorem d5_35 : decode prog_17_method_5_code 35 = .ok (.iload_n 3, 1) := by decide +kernel
theorem d5_36 : decode prog_17_method_5_code 36 = .ok (.iconst 2, 1) := by decide +kernel
theorem d5_37 : decode prog_17_method_5_code 37 = .ok (.imul, 1) := by decide +kernel
theorem d5_38 : decode prog_17_method_5_code 38 = .ok (.istore_n 3, 1) := by decide +kernel
theorem d5_39 : decode prog_17_method_5_code 39 = .ok (.goto (-15), 3) := by decide +kernel
theorem d5_51 : decode prog_17_method_5_code 51 = .ok (.aload_n 0, 1) := by decide +kernel
theorem d5_52 : decode prog_17_method_5_code 52 = .ok (.iload_n 3, 1) := by decide +kernel
theorem d5_53 : decode prog_17_method_5_code 53 = .ok (.invokevirtual 73, 3) := by decide +kernel
theorem pd_5_4 : parseMethodDescriptor "(I)V" = some ⟨[.int], none⟩ := by decide +kernel
set_option maxRecDepth 65536 in
set_option maxHeartbeats 40000000 in
theorem rm5_1 (l : Launch) (Z : State) (a0 : Array Value) (hw : ∀ d ∈ tables_1, d.before a0 Z = true) (ws : List Jvm.Cond) (a1 : Addr) (q2 : Int64) (w3 : Addr) (cl_w3 : Cell) (kw : ClassId) (w9 : Addr) (u9 zz : Int32) (h0 : Heap) (n0 : Nat) (Z0 : n0 ≤ h0.size) (F_slotHashes_a1 : Fld Z h0 a1 "com/example/wheredb/wheredb/storage/MemorySet" "slotHashes" "[I" (.ref w3)) (Ar_w3 : Arr Z h0 w3 cl_w3 .int) (S_w3 : cl_w3.slots.size = (8 : Int32).toNatClampNeg) (N_w3 : ¬ (8 : Int32) < 0) (E_a1 : Exa Z h0 a1 "com/example/wheredb/wheredb/storage/MemorySet") (F_slotCells_a1 : Fld Z h0 a1 "com/example/wheredb/wheredb/storage/MemorySet" "slotCells" "[J" (.ref w9)) (F_slotShift_a1 : Fld Z h0 a1 "com/example/wheredb/wheredb/storage/MemorySet" "slotShift" "I" (.int u9)) (g_a1 : n0 ≤ a1) (V5 : Arv Z h0 w3 kw .int (8 : Int32) [] (.int (0 : Int32))) (hz : ((8 : Int32) * (2 : Int32)) = zz) (hc5 : ¬ ((0 : Int32) < (lcmpW q2 (805306368 : Int64)))) (hnz26 : ¬ ((4 : Int32) = (0 : Int32))) (hc32 : (lcmpW ((((8 : Int32) / (4 : Int32)) * (3 : Int32)).toInt64) q2) < (0 : Int32)) (hnz26_25 : ¬ ((4 : Int32) = (0 : Int32))) (hc32_31 : ¬ ((lcmpW (((((8 : Int32) * (2 : Int32)) / (4 : Int32)) * (3 : Int32)).toInt64) q2) < (0 : Int32))) (hc48 : (8 : Int32) < ((8 : Int32) * (2 : Int32))) :
    MetFree l (⟨"com/example/wheredb/wheredb/storage/MemorySet", "reserve", "(J)V"⟩ : MethodName) (head1 (Jvm.Cond.code (⟨"com/example/wheredb/wheredb/storage/MemorySet", "reserve", "(J)V"⟩ : MethodName) prog_17_method_5_code 4 none :: ws) ({ frames := 2, cells := 2, slots := 2048, locals := 33 } : Room)) (fun a U => a = #[(.ref a1), (.long q2)] ∧ Z.Warmed39 U.vm ∧ U.heap = h0) (fun _ _ _ _ _ => True) (fun _ U o U' => ∃ v L, o = .returned v ∧ Q5 Z a1 zz h0 n0 v U'.heap L ∧ FrameEnd U o U' L ({ frames := 2, cells := 2, slots := 2048, locals := 33 } : Room).cells ({ frames := 2, cells := 2, slots := 2048, locals := 33 } : Room).slots) := by
  refine MetFree.of_bodySF (plainFor_of_name pn_5) hisR ?_
  intro p e s m args below meth c s₁ Bd hml0 hP hK
  obtain ⟨rfl, hZ, hh⟩ := hP
  have hx := Bd.exec
  have hby := Bd.bytes
  have hml : c.maxLocals = 4 := hml0
  have hown : s.vm.findClass "com/example/wheredb/wheredb/storage/MemorySet" = some m.cls := findClass_of_methodNamed Bd.named
  have hnm := (name_of_methodNamed Bd.named Bd.method).1
  have X0 : Stand p l e ({ frames := 2, cells := 2, slots := 2048, locals := 33 } : Room) s m #[(.ref a1), (.long q2)] below meth c s₁ [] 0 0 := Stand.of_body Bd
  have e0 : s₁.heap = h0 := by rw [← hh, Bd.state]; rfl
  have N0 := Fr.nil n0
  have pre0 : ∀ t, Steps p.tables e below (s₁.setTop (mkF m 0 #[.val (.ref a1), .val (.long q2), .second, .unset] [])) t → Steps p.tables e below (s₁.setTop (entryFrame m #[(.ref a1), (.long q2)] 4)) t := fun t k => castTop (ef_5 m a1 q2) k
  obtain ⟨T4, X4, e4, st4⟩ := getF X0 hx hZ hown (host := "") (Or.inl (hw _ (List.mem_of_getElem? (i := 17) rfl))) Via.refl e0 F_slotHashes_a1 (g := (mkF m 19 #[.val (.ref a1), .val (.long q2), .second, .unset] [(.ref a1)])) rfl rfl (hb hby d5_19)
  obtain ⟨T5, X5, e5, st5⟩ := getF X4 hx hZ hown (host := "") (Or.inl (hw _ (List.mem_of_getElem? (i := 17) rfl))) Via.refl e4 F_slotHashes_a1 (g := (mkF m 44 #[.val (.ref a1), .val (.long q2), .second, .val (.int ((8 : Int32) * (2 : Int32)))] [(.ref a1), (.int ((8 : Int32) * (2 : Int32)))])) rfl rfl (hb hby d5_44)
  obtain ⟨cq6, q6, q6'⟩ := E_a1.cell
  obtain ⟨_, _, ⟨T6, L6, k6, n6⟩, -, X6, ⟨Lc6, hQ6, l6, y6, z6⟩, st6⟩ := X5.privateBack hx (y := (⟨"com/example/wheredb/wheredb/storage/MemorySet", "growTable", "(I)V"⟩ : MethodName)) hown (mvT hZ (hw _ (List.mem_of_getElem? (i := 40) rfl))) (mvT hZ (hw _ (List.mem_of_getElem? (i := 41) rfl))) (own_sel (mvT hZ (hw _ (List.mem_of_getElem? (i := 1) rfl))) (Cond.privateMethod_at (mvP hZ (hw _ (List.mem_of_getElem? (i := 42) rfl)) (args := #[]))) (mvT hZ (hw _ (List.mem_of_getElem? (i := 41) rfl))) (by decide)) (Cond.privateMethod_at (mvP hZ (hw _ (List.mem_of_getElem? (i := 42) rfl)) (args := #[]))) (mvT hZ (hw _ (List.mem_of_getElem? (i := 43) rfl))) (by decide) (backOf (W := 0) (rm6 l Z a0 hw [] a1 ((8 : Int32) * (2 : Int32)) w3 w9 (.int u9) kw h0 n0 Z0 F_slotHashes_a1 F_slotCells_a1 E_a1 g_a1 F_slotShift_a1 V5 (by unfold Pw; decide)) hZ (hw _ (List.mem_of_getElem? (i := 43) rfl)) (hw _ (List.mem_of_getElem? (i := 2) rfl)) (by decide) (by decide)) (g := (mkF m 53 #[.val (.ref a1), .val (.long q2), .second, .val (.int ((8 : Int32) * (2 : Int32)))] [(.int ((8 : Int32) * (2 : Int32))), (.ref a1)])) rfl (by rw [hml]; rfl) (Steps.refl _) (a := a1) (by rw [e5]; exact q6) q6' (argsL := [(.int ((8 : Int32) * (2 : Int32)))]) (rest := []) (lenOf pd_5_4 rfl) rfl (by show 2 * 0 + _ ≤ _; exact Nat.le_of_eq rfl) (hb hby d5_53) (fun _ _ => ⟨rfl, e5, (by decide : 0 + 2 ≤ _), (by decide : 0 + 2048 ≤ _)⟩)
  dsimp only [Pt.U, Pt.locs, Pt.cells, Pt.slots] at X6 l6 y6 z6 st6 hQ6
  subst l6 y6 z6
  obtain ⟨rfl, N6q, Kc6, Ec6, b6, k6b, Fh6, Vb6⟩ := hQ6
  have N6 := Fr.app N0 N6q
  have K6 : Keep h0 T6.heap [a1] := (Keep.refl h0 [a1]).trans Kc6 (allS (Or.inl (List.mem_of_getElem? (i := 0) rfl)) all0)
  obtain ⟨fs, hr, hrun, hended, hW, hsame⟩ := X6.leave (v := none) (fun _ => rfl)
  refine ⟨_, _, pre0 _ ?_, hrun, hended, _, _, rfl, ?_, ⟨_, rfl⟩, hW, hsame.mono (by decide) (by decide)⟩
  · show Steps p.tables e below (s₁.setTop (mkF m 0 #[.val (.ref a1), .val (.long q2), .second, .unset] [])) _
    refine XS.lloadN X0.here hx rfl (hb hby d5_0) rfl ?_
    show Steps p.tables e below (s₁.setTop (mkF m 1 #[.val (.ref a1), .val (.long q2), .second, .unset] [(.long q2)])) _
    refine X0.ldc2Long hx hown (mvT hZ (hw _ (List.mem_of_getElem? (i := 39) rfl))) (g := (mkF m 1 #[.val (.ref a1), .val (.long q2), .second, .unset] [(.long q2)])) rfl (hb hby d5_1) _ ?_
    show Steps p.tables e below (s₁.setTop (mkF m 4 #[.val (.ref a1), .val (.long q2), .second, .unset] [(.long (805306368 : Int64)), (.long q2)])) _
    refine XS.lcmp X0.here hx rfl (hb hby d5_4) rfl ?_
    show Steps p.tables e below (s₁.setTop (mkF m 5 #[.val (.ref a1), .val (.long q2), .second, .unset] [(.int (lcmpW q2 (805306368 : Int64)))])) _
    refine XS.ifYes X0.here hx rfl (pc0 := 5) (pc' := 18) rfl (hb hby d5_5) rfl ((if0 _ _).trans (flt hc5).2.2.2) (by decide) (by decide) ?_
    show Steps p.tables e below (s₁.setTop (mkF m 18 #[.val (.ref a1), .val (.long q2), .second, .unset] [])) _
    refine XS.aloadN X0.here hx rfl (hb hby d5_18) rfl rfl ?_
    show Steps p.tables e below (s₁.setTop (mkF m 19 #[.val (.ref a1), .val (.long q2), .second, .unset] [(.ref a1)])) _
    refine st4 _ ?_
    show Steps p.tables e below (T4.setTop (mkF m 22 #[.val (.ref a1), .val (.long q2), .second, .unset] [(.ref w3)])) _
    refine X4.arraylength hx (by rw [e4]; exact Ar_w3.1) (State.isArrayOf_alike hZ.alike Ar_w3.2.1) (g := (mkF m 22 #[.val (.ref a1), .val (.long q2), .second, .unset] [(.ref w3)])) rfl rfl (hb hby d5_22) _ ?_
    rw [len_of S_w3 N_w3]
    show Steps p.tables e below (T4.setTop (mkF m 23 #[.val (.ref a1), .val (.long q2), .second, .unset] [(.int (8 : Int32))])) _
    refine XS.istoreN X4.here hx rfl (hb hby d5_23) rfl (l' := #[.val (.ref a1), .val (.long q2), .second, .val (.int (8 : Int32))]) rfl ?_
    show Steps p.tables e below (T4.setTop (mkF m 24 #[.val (.ref a1), .val (.long q2), .second, .val (.int (8 : Int32))] [])) _
    refine XS.iloadN X4.here hx rfl (hb hby d5_24) rfl ?_
    show Steps p.tables e below (T4.setTop (mkF m 25 #[.val (.ref a1), .val (.long q2), .second, .val (.int (8 : Int32))] [(.int (8 : Int32))])) _
    refine XS.iconst X4.here hx rfl (hb hby d5_25) ?_
    show Steps p.tables e below (T4.setTop (mkF m 26 #[.val (.ref a1), .val (.long q2), .second, .val (.int (8 : Int32))] [(.int (4 : Int32)), (.int (8 : Int32))])) _
    refine XS.idiv X4.here hx rfl (hb hby d5_26) rfl hnz26 ?_
    show Steps p.tables e below (T4.setTop (mkF m 27 #[.val (.ref a1), .val (.long q2), .second, .val (.int (8 : Int32))] [(.int ((8 : Int32) / (4 : Int32)))])) _
    refine XS.iconst X4.here hx rfl (hb hby d5_27) ?_
    show Steps p.tables e below (T4.setTop (mkF m 28 #[.val (.ref a1), .val (.long q2), .second, .val (.int (8 : Int32))] [(.int (3 : Int32)), (.int ((8 : Int32) / (4 : Int32)))])) _
    refine XS.imul X4.here hx rfl (hb hby d5_28) rfl ?_
    show Steps p.tables e below (T4.setTop (mkF m 29 #[.val (.ref a1), .val (.long q2), .second, .val (.int (8 : Int32))] [(.int (((8 : Int32) / (4 : Int32)) * (3 : Int32)))])) _
    refine XS.i2l X4.here hx rfl (hb hby d5_29) rfl ?_
    show Steps p.tables e below (T4.setTop (mkF m 30 #[.val (.ref a1), .val (.long q2), .second, .val (.int (8 : Int32))] [(.long ((((8 : Int32) / (4 : Int32)) * (3 : Int32)).toInt64))])) _
    refine XS.lloadN X4.here hx rfl (hb hby d5_30) rfl ?_
    show Steps p.tables e below (T4.setTop (mkF m 31 #[.val (.ref a1), .val (.long q2), .second, .val (.int (8 : Int32))] [(.long q2), (.long ((((8 : Int32) / (4 : Int32)) * (3 : Int32)).toInt64))])) _
    refine XS.lcmp X4.here hx rfl (hb hby d5_31) rfl ?_
    show Steps p.tables e below (T4.setTop (mkF m 32 #[.val (.ref a1), .val (.long q2), .second, .val (.int (8 : Int32))] [(.int (lcmpW ((((8 : Int32) / (4 : Int32)) * (3 : Int32)).toInt64) q2))])) _
    refine XS.ifNo X4.here hx rfl (hb hby d5_32) rfl ((if0 _ _).trans (tlt hc32).2.1) ?_
    show Steps p.tables e below (T4.setTop (mkF m 35 #[.val (.ref a1), .val (.long q2), .second, .val (.int (8 : Int32))] [])) _
    refine XS.iloadN X4.here hx rfl (hb hby d5_35) rfl ?_
    show Steps p.tables e below (T4.setTop (mkF m 36 #[.val (.ref a1), .val (.long q2), .second, .val (.int (8 : Int32))] [(.int (8 : Int32))])) _
    refine XS.iconst X4.here hx rfl (hb hby d5_36) ?_
    show Steps p.tables e below (T4.setTop (mkF m 37 #[.val (.ref a1), .val (.long q2), .second, .val (.int (8 : Int32))] [(.int (2 : Int32)), (.int (8 : Int32))])) _
    refine XS.imul X4.here hx rfl (hb hby d5_37) rfl ?_
    show Steps p.tables e below (T4.setTop (mkF m 38 #[.val (.ref a1), .val (.long q2), .second, .val (.int (8 : Int32))] [(.int ((8 : Int32) * (2 : Int32)))])) _
    refine XS.istoreN X4.here hx rfl (hb hby d5_38) rfl (l' := #[.val (.ref a1), .val (.long q2), .second, .val (.int ((8 : Int32) * (2 : Int32)))]) rfl ?_
    show Steps p.tables e below (T4.setTop (mkF m 39 #[.val (.ref a1), .val (.long q2), .second, .val (.int ((8 : Int32) * (2 : Int32)))] [])) _
    refine XS.goto X4.here hx rfl (pc0 := 39) (pc' := 24) rfl (hb hby d5_39) (by decide) (by decide) ?_
    show Steps p.tables e below (T4.setTop (mkF m 24 #[.val (.ref a1), .val (.long q2), .second, .val (.int ((8 : Int32) * (2 : Int32)))] [])) _
    refine XS.iloadN X4.here hx rfl (hb hby d5_24) rfl ?_
    show Steps p.tables e below (T4.setTop (mkF m 25 #[.val (.ref a1), .val (.long q2), .second, .val (.int ((8 : Int32) * (2 : Int32)))] [(.int ((8 : Int32) * (2 : Int32)))])) _
    refine XS.iconst X4.here hx rfl (hb hby d5_25) ?_
    show Steps p.tables e below (T4.setTop (mkF m 26 #[.val (.ref a1), .val (.long q2), .second, .val (.int ((8 : Int32) * (2 : Int32)))] [(.int (4 : Int32)), (.int ((8 : Int32) * (2 : Int32)))])) _
    refine XS.idiv X4.here hx rfl (hb hby d5_26) rfl hnz26_25 ?_
    show Steps p.tables e below (T4.setTop (mkF m 27 #[.val (.ref a1), .val (.long q2), .second, .val (.int ((8 : Int32) * (2 : Int32)))] [(.int (((8 : Int32) * (2 : Int32)) / (4 : Int32)))])) _
    refine XS.iconst X4.here hx rfl (hb hby d5_27) ?_
    show Steps p.tables e below (T4.setTop (mkF m 28 #[.val (.ref a1), .val (.long q2), .second, .val (.int ((8 : Int32) * (2 : Int32)))] [(.int (3 : Int32)), (.int (((8 : Int32) * (2 : Int32)) / (4 : Int32)))])) _
    refine XS.imul X4.here hx rfl (hb hby d5_28) rfl ?_
    show Steps p.tables e below (T4.setTop (mkF m 29 #[.val (.ref a1), .val (.long q2), .second, .val (.int ((8 : Int32) * (2 : Int32)))] [(.int ((((8 : Int32) * (2 : Int32)) / (4 : Int32)) * (3 : Int32)))])) _
    refine XS.i2l X4.here hx rfl (hb hby d5_29) rfl ?_
    show Steps p.tables e below (T4.setTop (mkF m 30 #[.val (.ref a1), .val (.long q2), .second, .val (.int ((8 : Int32) * (2 : Int32)))] [(.long (((((8 : Int32) * (2 : Int32)) / (4 : Int32)) * (3 : Int32)).toInt64))])) _
    refine XS.lloadN X4.here hx rfl (hb hby d5_30) rfl ?_
    show Steps p.tables e below (T4.setTop (mkF m 31 #[.val (.ref a1), .val (.long q2), .second, .val (.int ((8 : Int32) * (2 : Int32)))] [(.long q2), (.long (((((8 : Int32) * (2 : Int32)) / (4 : Int32)) * (3 : Int32)).toInt64))])) _
    refine XS.lcmp X4.here hx rfl (hb hby d5_31) rfl ?_
    show Steps p.tables e below (T4.setTop (mkF m 32 #[.val (.ref a1), .val (.long q2), .second, .val (.int ((8 : Int32) * (2 : Int32)))] [(.int (lcmpW (((((8 : Int32) * (2 : Int32)) / (4 : Int32)) * (3 : Int32)).toInt64) q2))])) _
    refine XS.ifYes X4.here hx rfl (pc0 := 32) (pc' := 42) rfl (hb hby d5_32) rfl ((if0 _ _).trans (flt hc32_31).2.1) (by decide) (by decide) ?_
    show Steps p.tables e below (T4.setTop (mkF m 42 #[.val (.ref a1), .val (.long q2), .second, .val (.int ((8 : Int32) * (2 : Int32)))] [])) _
    refine XS.iloadN X4.here hx rfl (hb hby d5_42) rfl ?_
    show Steps p.tables e below (T4.setTop (mkF m 43 #[.val (.ref a1), .val (.long q2), .second, .val (.int ((8 : Int32) * (2 : Int32)))] [(.int ((8 : Int32) * (2 : Int32)))])) _
    refine XS.aloadN X4.here hx rfl (hb hby d5_43) rfl rfl ?_
    show Steps p.tables e below (T4.setTop (mkF m 44 #[.val (.ref a1), .val (.long q2), .second, .val (.int ((8 : Int32) * (2 : Int32)))] [(.ref a1), (.int ((8 : Int32) * (2 : Int32)))])) _
    refine st5 _ ?_
    show Steps p.tables e below (T5.setTop (mkF m 47 #[.val (.ref a1), .val (.long q2), .second, .val (.int ((8 : Int32) * (2 : Int32)))] [(.ref w3), (.int ((8 : Int32) * (2 : Int32)))])) _
    refine X5.arraylength hx (by rw [e5]; exact Ar_w3.1) (State.isArrayOf_alike hZ.alike Ar_w3.2.1) (g := (mkF m 47 #[.val (.ref a1), .val (.long q2), .second, .val (.int ((8 : Int32) * (2 : Int32)))] [(.ref w3), (.int ((8 : Int32) * (2 : Int32)))])) rfl rfl (hb hby d5_47) _ ?_
    rw [len_of S_w3 N_w3]
    show Steps p.tables e below (T5.setTop (mkF m 48 #[.val (.ref a1), .val (.long q2), .second, .val (.int ((8 : Int32) * (2 : Int32)))] [(.int (8 : Int32)), (.int ((8 : Int32) * (2 : Int32)))])) _
    refine XS.icmpNo X5.here hx rfl (hb hby d5_48) rfl (tlt hc48).2.2.2 ?_
    show Steps p.tables e below (T5.setTop (mkF m 51 #[.val (.ref a1), .val (.long q2), .second, .val (.int ((8 : Int32) * (2 : Int32)))] [])) _
    refine XS.aloadN X5.here hx rfl (hb hby d5_51) rfl rfl ?_
    show Steps p.tables e below (T5.setTop (mkF m 52 #[.val (.ref a1), .val (.long q2), .second, .val (.int ((8 : Int32) * (2 : Int32)))] [(.ref a1)])) _
    refine XS.iloadN X5.here hx rfl (hb hby d5_52) rfl ?_
    show Steps p.tables e below (T5.setTop (mkF m 53 #[.val (.ref a1), .val (.long q2), .second, .val (.int ((8 : Int32) * (2 : Int32)))] [(.int ((8 : Int32) * (2 : Int32))), (.ref a1)])) _
    refine st6.trans ?_
    show Steps p.tables e below (T6.setTop (mkF m 56 #[.val (.ref a1), .val (.long q2), .second, .val (.int ((8 : Int32) * (2 : Int32)))] [])) _
    exact X6.returnOut hx Bd.returns (hb hby d5_56) hr
  · show Q5 Z a1 zz h0 n0 _ T6.heap _
    exact ⟨rfl, N6, K6, Ec6, b6, k6b, Fh6, hz ▸ Vb6⟩
set_option maxRecDepth 65536 in
set_option maxHeartbeats 40000000 in
theorem rm5_2 (l : Launch) (Z : State) (a0 : Array Value) (hw : ∀ d ∈ tables_1, d.before a0 Z = true) (ws : List Jvm.Cond) (a1 : Addr) (q2 : Int64) (w3 : Addr) (cl_w3 : Cell) (kw : ClassId) (w9 : Addr) (u9 zz : Int32) (h0 : Heap) (n0 : Nat) (Z0 : n0 ≤ h0.size) (F_slotHashes_a1 : Fld Z h0 a1 "com/example/wheredb/wheredb/storage/MemorySet" "slotHashes" "[I" (.ref w3)) (Ar_w3 : Arr Z h0 w3 cl_w3 .int) (S_w3 : cl_w3.slots.size = (8 : Int32).toNatClampNeg) (N_w3 : ¬ (8 : Int32) < 0) (E_a1 : Exa Z h0 a1 "com/example/wheredb/wheredb/storage/MemorySet") (F_slotCells_a1 : Fld Z h0 a1 "com/example/wheredb/wheredb/storage/MemorySet" "slotCells" "[J" (.ref w9)) (F_slotShift_a1 : Fld Z h0 a1 "com/example/wheredb/wheredb/storage/MemorySet" "slotShift" "I" (.int u9)) (g_a1 : n0 ≤ a1) (V5 : Arv Z h0 w3 kw .int (8 : Int32) [] (.int (0 : Int32))) (hz : (((8 : Int32) * (2 : Int32)) * (2 : Int32)) = zz) (hc5 : ¬ ((0 : Int32) < (lcmpW q2 (805306368 : Int64)))) (hnz26 : ¬ ((4 : Int32) = (0 : Int32))) (hc32 : (lcmpW ((((8 : Int32) / (4 : Int32)) * (3 : Int32)).toInt64) q2) < (0 : Int32)) (hnz26_25 : ¬ ((4 : Int32) = (0 : Int32))) (hc32_31 : (lcmpW (((((8 : Int32) * (2 : Int32)) / (4 : Int32)) * (3 : Int32)).toInt64) q2) < (0 : Int32)) (hnz26_39 : ¬ ((4 : Int32) = (0 : Int32))) (hc32_45 : ¬ ((lcmpW ((((((8 : Int32) * (2 : Int32)) * (2 : Int32)) / (4 : Int32)) * (3 : Int32)).toInt64) q2) < (0 : Int32))) (hc48 : (8 : Int32) < (((8 : Int32) * (2 : Int32)) * (2 : Int32))) :
    MetFree l (⟨"com/example/wheredb/wheredb/storage/MemorySet", "reserve", "(J)V"⟩ : MethodName) (head1 (Jvm.Cond.code (⟨"com/example/wheredb/wheredb/storage/MemorySet", "reserve", "(J)V"⟩ : MethodName) prog_17_method_5_code 4 none :: ws) ({ frames := 2, cells := 2, slots := 2048, locals := 33 } : Room)) (fun a U => a = #[(.ref a1), (.long q2)] ∧ Z.Warmed39 U.vm ∧ U.heap = h0) (fun _ _ _ _ _ => True) (fun _ U o U' => ∃ v L, o = .returned v ∧ Q5 Z a1 zz h0 n0 v U'.heap L ∧ FrameEnd U o U' L ({ frames := 2, cells := 2, slots := 2048, locals := 33 } : Room).cells ({ frames := 2, cells := 2, slots := 2048, locals := 33 } : Room).slots) := by
  refine MetFree.of_bodySF (plainFor_of_name pn_5) hisR ?_
  intro p e s m args below meth c s₁ Bd hml0 hP hK
  obtain ⟨rfl, hZ, hh⟩ := hP
  have hx := Bd.exec
  have hby := Bd.bytes
  have hml : c.maxLocals = 4 := hml0
  have hown : s.vm.findClass "com/example/wheredb/wheredb/storage/MemorySet" = some m.cls := findClass_of_methodNamed Bd.named
  have hnm := (name_of_methodNamed Bd.named Bd.method).1
  have X0 : Stand p l e ({ frames := 2, cells := 2, slots := 2048, locals := 33 } : Room) s m #[(.ref a1), (.long q2)] below meth c s₁ [] 0 0 := Stand.of_body Bd
  have e0 : s₁.heap = h0 := by rw [← hh, Bd.state]; rfl
  have N0 := Fr.nil n0
  have pre0 : ∀ t, Steps p.tables e below (s₁.setTop (mkF m 0 #[.val (.ref a1), .val (.long q2), .second, .unset] [])) t → Steps p.tables e below (s₁.setTop (entryFrame m #[(.ref a1), (.long q2)] 4)) t := fun t k => castTop (ef_5 m a1 q2) k
  obtain ⟨T4, X4, e4, st4⟩ := getF X0 hx hZ hown (host := "") (Or.inl (hw _ (List.mem_of_getElem? (i := 17) rfl))) Via.refl e0 F_slotHashes_a1 (g := (mkF m 19 #[.val (.ref a1), .val (.long q2), .second, .unset] [(.ref a1)])) rfl rfl (hb hby d5_19)
  obtain ⟨T5, X5, e5, st5⟩ := getF X4 hx hZ hown (host := "") (Or.inl (hw _ (List.mem_of_getElem? (i := 17) rfl))) Via.refl e4 F_slotHashes_a1 (g := (mkF m 44 #[.val (.ref a1), .val (.long q2), .second, .val (.int (((8 : Int32) * (2 : Int32)) * (2 : Int32)))] [(.ref a1), (.int (((8 : Int32) * (2 : Int32)) * (2 : Int32)))])) rfl rfl (hb hby d5_44)
  obtain ⟨cq6, q6, q6'⟩ := E_a1.cell
  obtain ⟨_, _, ⟨T6, L6, k6, n6⟩, -, X6, ⟨Lc6, hQ6, l6, y6, z6⟩, st6⟩ := X5.privateBack hx (y := (⟨"com/example/wheredb/wheredb/storage/MemorySet", "growTable", "(I)V"⟩ : MethodName)) hown (mvT hZ (hw _ (List.mem_of_getElem? (i := 40) rfl))) (mvT hZ (hw _ (List.mem_of_getElem? (i := 41) rfl))) (own_sel (mvT hZ (hw _ (List.mem_of_getElem? (i := 1) rfl))) (Cond.privateMethod_at (mvP hZ (hw _ (List.mem_of_getElem? (i := 42) rfl)) (args := #[]))) (mvT hZ (hw _ (List.mem_of_getElem? (i := 41) rfl))) (by decide)) (Cond.privateMethod_at (mvP hZ (hw _ (List.mem_of_getElem? (i := 42) rfl)) (args := #[]))) (mvT hZ (hw _ (List.mem_of_getElem? (i := 43) rfl))) (by decide) (backOf (W := 0) (rm6 l Z a0 hw [] a1 (((8 : Int32) * (2 : Int32)) * (2 : Int32)) w3 w9 (.int u9) kw h0 n0 Z0 F_slotHashes_a1 F_slotCells_a1 E_a1 g_a1 F_slotShift_a1 V5 (by unfold Pw; decide)) hZ (hw _ (List.mem_of_getElem? (i := 43) rfl)) (hw _ (List.mem_of_getElem? (i := 2) rfl)) (by decide) (by decide)) (g := (mkF m 53 #[.val (.ref a1), .val (.long q2), .second, .val (.int (((8 : Int32) * (2 : Int32)) * (2 : Int32)))] [(.int (((8 : Int32) * (2 : Int32)) * (2 : Int32))), (.ref a1)])) rfl (by rw [hml]; rfl) (Steps.refl _) (a := a1) (by rw [e5]; exact q6) q6' (argsL := [(.int (((8 : Int32) * (2 : Int32)) * (2 : Int32)))]) (rest := []) (lenOf pd_5_4 rfl) rfl (by show 2 * 0 + _ ≤ _; exact Nat.le_of_eq rfl) (hb hby d5_53) (fun _ _ => ⟨rfl, e5, (by decide : 0 + 2 ≤ _), (by decide : 0 + 2048 ≤ _)⟩)
  dsimp only [Pt.U, Pt.locs, Pt.cells, Pt.slots] at X6 l6 y6 z6 st6 hQ6
  subst l6 y6 z6
  obtain ⟨rfl, N6q, Kc6, Ec6, b6, k6b, Fh6, Vb6⟩ := hQ6
  have N6 := Fr.app N0 N6q
  have K6 : Keep h0 T6.heap [a1] := (Keep.refl h0 [a1]).trans Kc6 (allS (Or.inl (List.mem_of_getElem? (i := 0) rfl)) all0)
  obtain ⟨fs, hr, hrun, hended, hW, hsame⟩ := X6.leave (v := none) (fun _ => rfl)
  refine ⟨_, _, pre0 _ ?_, hrun, hended, _, _, rfl, ?_, ⟨_, rfl⟩, hW, hsame.mono (by decide) (by decide)⟩
  · show Steps p.tables e below (s₁.setTop (mkF m 0 #[.val (.ref a1), .val (.long q2), .second, .unset] [])) _
    refine XS.lloadN X0.here hx rfl (hb hby d5_0) rfl ?_
    show Steps p.tables e below (s₁.setTop (mkF m 1 #[.val (.ref a1), .val (.long q2), .second, .unset] [(.long q2)])) _
    refine X0.ldc2Long hx hown (mvT hZ (hw _ (List.mem_of_getElem? (i := 39) rfl))) (g := (mkF m 1 #[.val (.ref a1), .val (.long q2), .second, .unset] [(.long q2)])) rfl (hb hby d5_1) _ ?_
    show Steps p.tables e below (s₁.setTop (mkF m 4 #[.val (.ref a1), .val (.long q2), .second, .unset] [(.long (805306368 : Int64)), (.long q2)])) _
    refine XS.lcmp X0.here hx rfl (hb hby d5_4) rfl ?_
    show Steps p.tables e below (s₁.setTop (mkF m 5 #[.val (.ref a1), .val (.long q2), .second, .unset] [(.int (lcmpW q2 (805306368 : Int64)))])) _
    refine XS.ifYes X0.here hx rfl (pc0 := 5) (pc' := 18) rfl (hb hby d5_5) rfl ((if0 _ _).trans (flt hc5).2.2.2) (by decide) (by decide) ?_
    show Steps p.tables e below (s₁.setTop (mkF m 18 #[.val (.ref a1), .val (.long q2), .second, .unset] [])) _
    refine XS.aloadN X0.here hx rfl (hb hby d5_18) rfl rfl ?_
    show Steps p.tables e below (s₁.setTop (mkF m 19 #[.val (.ref a1), .val (.long q2), .second, .unset] [(.ref a1)])) _
    refine st4 _ ?_
    show Steps p.tables e below (T4.setTop (mkF m 22 #[.val (.ref a1), .val (.long q2), .second, .unset] [(.ref w3)])) _
    refine X4.arraylength hx (by rw [e4]; exact Ar_w3.1) (State.isArrayOf_alike hZ.alike Ar_w3.2.1) (g := (mkF m 22 #[.val (.ref a1), .val (.long q2), .second, .unset] [(.ref w3)])) rfl rfl (hb hby d5_22) _ ?_
    rw [len_of S_w3 N_w3]
    show Steps p.tables e below (T4.setTop (mkF m 23 #[.val (.ref a1), .val (.long q2), .second, .unset] [(.int (8 : Int32))])) _
    refine XS.istoreN X4.here hx rfl (hb hby d5_23) rfl (l' := #[.val (.ref a1), .val (.long q2), .second, .val (.int (8 : Int32))]) rfl ?_
    show Steps p.tables e below (T4.setTop (mkF m 24 #[.val (.ref a1), .val (.long q2), .second, .val (.int (8 : Int32))] [])) _
    refine XS.iloadN X4.here hx rfl (hb hby d5_24) rfl ?_
    show Steps p.tables e below (T4.setTop (mkF m 25 #[.val (.ref a1), .val (.long q2), .second, .val (.int (8 : Int32))] [(.int (8 : Int32))])) _
    refine XS.iconst X4.here hx rfl (hb hby d5_25) ?_
    show Steps p.tables e below (T4.setTop (mkF m 26 #[.val (.ref a1), .val (.long q2), .second, .val (.int (8 : Int32))] [(.int (4 : Int32)), (.int (8 : Int32))])) _
    refine XS.idiv X4.here hx rfl (hb hby d5_26) rfl hnz26 ?_
    show Steps p.tables e below (T4.setTop (mkF m 27 #[.val (.ref a1), .val (.long q2), .second, .val (.int (8 : Int32))] [(.int ((8 : Int32) / (4 : Int32)))])) _
    refine XS.iconst X4.here hx rfl (hb hby d5_27) ?_
    show Steps p.tables e below (T4.setTop (mkF m 28 #[.val (.ref a1), .val (.long q2), .second, .val (.int (8 : Int32))] [(.int (3 : Int32)), (.int ((8 : Int32) / (4 : Int32)))])) _
    refine XS.imul X4.here hx rfl (hb hby d5_28) rfl ?_
    show Steps p.tables e below (T4.setTop (mkF m 29 #[.val (.ref a1), .val (.long q2), .second, .val (.int (8 : Int32))] [(.int (((8 : Int32) / (4 : Int32)) * (3 : Int32)))])) _
    refine XS.i2l X4.here hx rfl (hb hby d5_29) rfl ?_
    show Steps p.tables e below (T4.setTop (mkF m 30 #[.val (.ref a1), .val (.long q2), .second, .val (.int (8 : Int32))] [(.long ((((8 : Int32) / (4 : Int32)) * (3 : Int32)).toInt64))])) _
    refine XS.lloadN X4.here hx rfl (hb hby d5_30) rfl ?_
    show Steps p.tables e below (T4.setTop (mkF m 31 #[.val (.ref a1), .val (.long q2), .second, .val (.int (8 : Int32))] [(.long q2), (.long ((((8 : Int32) / (4 : Int32)) * (3 : Int32)).toInt64))])) _
    refine XS.lcmp X4.here hx rfl (hb hby d5_31) rfl ?_
    show Steps p.tables e below (T4.setTop (mkF m 32 #[.val (.ref a1), .val (.long q2), .second, .val (.int (8 : Int32))] [(.int (lcmpW ((((8 : Int32) / (4 : Int32)) * (3 : Int32)).toInt64) q2))])) _
    refine XS.ifNo X4.here hx rfl (hb hby d5_32) rfl ((if0 _ _).trans (tlt hc32).2.1) ?_
    show Steps p.tables e below (T4.setTop (mkF m 35 #[.val (.ref a1), .val (.long q2), .second, .val (.int (8 : Int32))] [])) _
    refine XS.iloadN X4.here hx rfl (hb hby d5_35) rfl ?_
    show Steps p.tables e below (T4.setTop (mkF m 36 #[.val (.ref a1), .val (.long q2), .second, .val (.int (8 : Int32))] [(.int (8 : Int32))])) _
    refine XS.iconst X4.here hx rfl (hb hby d5_36) ?_
    show Steps p.tables e below (T4.setTop (mkF m 37 #[.val (.ref a1), .val (.long q2), .second, .val (.int (8 : Int32))] [(.int (2 : Int32)), (.int (8 : Int32))])) _
    refine XS.imul X4.here hx rfl (hb hby d5_37) rfl ?_
    show Steps p.tables e below (T4.setTop (mkF m 38 #[.val (.ref a1), .val (.long q2), .second, .val (.int (8 : Int32))] [(.int ((8 : Int32) * (2 : Int32)))])) _
    refine XS.istoreN X4.here hx rfl (hb hby d5_38) rfl (l' := #[.val (.ref a1), .val (.long q2), .second, .val (.int ((8 : Int32) * (2 : Int32)))]) rfl ?_
    show Steps p.tables e below (T4.setTop (mkF m 39 #[.val (.ref a1), .val (.long q2), .second, .val (.int ((8 : Int32) * (2 : Int32)))] [])) _
    refine XS.goto X4.here hx rfl (pc0 := 39) (pc' := 24) rfl (hb hby d5_39) (by decide) (by decide) ?_
    show Steps p.tables e below (T4.setTop (mkF m 24 #[.val (.ref a1), .val (.long q2), .second, .val (.int ((8 : Int32) * (2 : Int32)))] [])) _
    refine XS.iloadN X4.here hx rfl (hb hby d5_24) rfl ?_
    show Steps p.tables e below (T4.setTop (mkF m 25 #[.val (.ref a1), .val (.long q2), .second, .val (.int ((8 : Int32) * (2 : Int32)))] [(.int ((8 : Int32) * (2 : Int32)))])) _
    refine XS.iconst X4.here hx rfl (hb hby d5_25) ?_
    show Steps p.tables e below (T4.setTop (mkF m 26 #[.val (.ref a1), .val (.long q2), .second, .val (.int ((8 : Int32) * (2 : Int32)))] [(.int (4 : Int32)), (.int ((8 : Int32) * (2 : Int32)))])) _
    refine XS.idiv X4.here hx rfl (hb hby d5_26) rfl hnz26_25 ?_
    show Steps p.tables e below (T4.setTop (mkF m 27 #[.val (.ref a1), .val (.long q2), .second, .val (.int ((8 : Int32) * (2 : Int32)))] [(.int (((8 : Int32) * (2 : Int32)) / (4 : Int32)))])) _
    refine XS.iconst X4.here hx rfl (hb hby d5_27) ?_
    show Steps p.tables e below (T4.setTop (mkF m 28 #[.val (.ref a1), .val (.long q2), .second, .val (.int ((8 : Int32) * (2 : Int32)))] [(.int (3 : Int32)), (.int (((8 : Int32) * (2 : Int32)) / (4 : Int32)))])) _
    refine XS.imul X4.here hx rfl (hb hby d5_28) rfl ?_
    show Steps p.tables e below (T4.setTop (mkF m 29 #[.val (.ref a1), .val (.long q2), .second, .val (.int ((8 : Int32) * (2 : Int32)))] [(.int ((((8 : Int32) * (2 : Int32)) / (4 : Int32)) * (3 : Int32)))])) _
    refine XS.i2l X4.here hx rfl (hb hby d5_29) rfl ?_
    show Steps p.tables e below (T4.setTop (mkF m 30 #[.val (.ref a1), .val (.long q2), .second, .val (.int ((8 : Int32) * (2 : Int32)))] [(.long (((((8 : Int32) * (2 : Int32)) / (4 : Int32)) * (3 : Int32)).toInt64))])) _
    refine XS.lloadN X4.here hx rfl (hb hby d5_30) rfl ?_
    show Steps p.tables e below (T4.setTop (mkF m 31 #[.val (.ref a1), .val (.long q2), .second, .val (.int ((8 : Int32) * (2 : Int32)))] [(.long q2), (.long (((((8 : Int32) * (2 : Int32)) / (4 : Int32)) * (3 : Int32)).toInt64))])) _
    refine XS.lcmp X4.here hx rfl (hb hby d5_31) rfl ?_
    show Steps p.tables e below (T4.setTop (mkF m 32 #[.val (.ref a1), .val (.long q2), .second, .val (.int ((8 : Int32) * (2 : Int32)))] [(.int (lcmpW (((((8 : Int32) * (2 : Int32)) / (4 : Int32)) * (3 : Int32)).toInt64) q2))])) _
    refine XS.ifNo X4.here hx rfl (hb hby d5_32) rfl ((if0 _ _).trans (tlt hc32_31).2.1) ?_
    show Steps p.tables e below (T4.setTop (mkF m 35 #[.val (.ref a1), .val (.long q2), .second, .val (.int ((8 : Int32) * (2 : Int32)))] [])) _
    refine XS.iloadN X4.here hx rfl (hb hby d5_35) rfl ?_
    show Steps p.tables e below (T4.setTop (mkF m 36 #[.val (.ref a1), .val (.long q2), .second, .val (.int ((8 : Int32) * (2 : Int32)))] [(.int ((8 : Int32) * (2 : Int32)))])) _
    refine XS.iconst X4.here hx rfl (hb hby d5_36) ?_
    show Steps p.tables e below (T4.setTop (mkF m 37 #[.val (.ref a1), .val (.long q2), .second, .val (.int ((8 : Int32) * (2 : Int32)))] [(.int (2 : Int32)), (.int ((8 : Int32) * (2 : Int32)))])) _
    refine XS.imul X4.here hx rfl (hb hby d5_37) rfl ?_
    show Steps p.tables e below (T4.setTop (mkF m 38 #[.val (.ref a1), .val (.long q2), .second, .val (.int ((8 : Int32) * (2 : Int32)))] [(.int (((8 : Int32) * (2 : Int32)) * (2 : Int32)))])) _
    refine XS.istoreN X4.here hx rfl (hb hby d5_38) rfl (l' := #[.val (.ref a1), .val (.long q2), .second, .val (.int (((8 : Int32) * (2 : Int32)) * (2 : Int32)))]) rfl ?_
    show Steps p.tables e below (T4.setTop (mkF m 39 #[.val (.ref a1), .val (.long q2), .second, .val (.int (((8 : Int32) * (2 : Int32)) * (2 : Int32)))] [])) _
    refine XS.goto X4.here hx rfl (pc0 := 39) (pc' := 24) rfl (hb hby d5_39) (by decide) (by decide) ?_
    show Steps p.tables e below (T4.setTop (mkF m 24 #[.val (.ref a1), .val (.long q2), .second, .val (.int (((8 : Int32) * (2 : Int32)) * (2 : Int32)))] [])) _
    refine XS.iloadN X4.here hx rfl (hb hby d5_24) rfl ?_
    show Steps p.tables e below (T4.setTop (mkF m 25 #[.val (.ref a1), .val (.long q2), .second, .val (.int (((8 : Int32) * (2 : Int32)) * (2 : Int32)))] [(.int (((8 : Int32) * (2 : Int32)) * (2 : Int32)))])) _
    refine XS.iconst X4.here hx rfl (hb hby d5_25) ?_
    show Steps p.tables e below (T4.setTop (mkF m 26 #[.val (.ref a1), .val (.long q2), .second, .val (.int (((8 : Int32) * (2 : Int32)) * (2 : Int32)))] [(.int (4 : Int32)), (.int (((8 : Int32) * (2 : Int32)) * (2 : Int32)))])) _
    refine XS.idiv X4.here hx rfl (hb hby d5_26) rfl hnz26_39 ?_
    show Steps p.tables e below (T4.setTop (mkF m 27 #[.val (.ref a1), .val (.long q2), .second, .val (.int (((8 : Int32) * (2 : Int32)) * (2 : Int32)))] [(.int ((((8 : Int32) * (2 : Int32)) * (2 : Int32)) / (4 : Int32)))])) _
    refine XS.iconst X4.here hx rfl (hb hby d5_27) ?_
    show Steps p.tables e below (T4.setTop (mkF m 28 #[.val (.ref a1), .val (.long q2), .second, .val (.int (((8 : Int32) * (2 : Int32)) * (2 : Int32)))] [(.int (3 : Int32)), (.int ((((8 : Int32) * (2 : Int32)) * (2 : Int32)) / (4 : Int32)))])) _
    refine XS.imul X4.here hx rfl (hb hby d5_28) rfl ?_
    show Steps p.tables e below (T4.setTop (mkF m 29 #[.val (.ref a1), .val (.long q2), .second, .val (.int (((8 : Int32) * (2 : Int32)) * (2 : Int32)))] [(.int (((((8 : Int32) * (2 : Int32)) * (2 : Int32)) / (4 : Int32)) * (3 : Int32)))])) _
    refine XS.i2l X4.here hx rfl (hb hby d5_29) rfl ?_
    show Steps p.tables e below (T4.setTop (mkF m 30 #[.val (.ref a1), .val (.long q2), .second, .val (.int (((8 : Int32) * (2 : Int32)) * (2 : Int32)))] [(.long ((((((8 : Int32) * (2 : Int32)) * (2 : Int32)) / (4 : Int32)) * (3 : Int32)).toInt64))])) _
    refine XS.lloadN X4.here hx rfl (hb hby d5_30) rfl ?_
    show Steps p.tables e below (T4.setTop (mkF m 31 #[.val (.ref a1), .val (.long q2), .second, .val (.int (((8 : Int32) * (2 : Int32)) * (2 : Int32)))] [(.long q2), (.long ((((((8 : Int32) * (2 : Int32)) * (2 : Int32)) / (4 : Int32)) * (3 : Int32)).toInt64))])) _
    refine XS.lcmp X4.here hx rfl (hb hby d5_31) rfl ?_
    show Steps p.tables e below (T4.setTop (mkF m 32 #[.val (.ref a1), .val (.long q2), .second, .val (.int (((8 : Int32) * (2 : Int32)) * (2 : Int32)))] [(.int (lcmpW ((((((8 : Int32) * (2 : Int32)) * (2 : Int32)) / (4 : Int32)) * (3 : Int32)).toInt64) q2))])) _
    refine XS.ifYes X4.here hx rfl (pc0 := 32) (pc' := 42) rfl (hb hby d5_32) rfl ((if0 _ _).trans (flt hc32_45).2.1) (by decide) (by decide) ?_
    show Steps p.tables e below (T4.setTop (mkF m 42 #[.val (.ref a1), .val (.long q2), .second, .val (.int (((8 : Int32) * (2 : Int32)) * (2 : Int32)))] [])) _
    refine XS.iloadN X4.here hx rfl (hb hby d5_42) rfl ?_
    show Steps p.tables e below (T4.setTop (mkF m 43 #[.val (.ref a1), .val (.long q2), .second, .val (.int (((8 : Int32) * (2 : Int32)) * (2 : Int32)))] [(.int (((8 : Int32) * (2 : Int32)) * (2 : Int32)))])) _
    refine XS.aloadN X4.here hx rfl (hb hby d5_43) rfl rfl ?_
    show Steps p.tables e below (T4.setTop (mkF m 44 #[.val (.ref a1), .val (.long q2), .second, .val (.int (((8 : Int32) * (2 : Int32)) * (2 : Int32)))] [(.ref a1), (.int (((8 : Int32) * (2 : Int32)) * (2 : Int32)))])) _
    refine st5 _ ?_
    show Steps p.tables e below (T5.setTop (mkF m 47 #[.val (.ref a1), .val (.long q2), .second, .val (.int (((8 : Int32) * (2 : Int32)) * (2 : Int32)))] [(.ref w3), (.int (((8 : Int32) * (2 : Int32)) * (2 : Int32)))])) _
    refine X5.arraylength hx (by rw [e5]; exact Ar_w3.1) (State.isArrayOf_alike hZ.alike Ar_w3.2.1) (g := (mkF m 47 #[.val (.ref a1), .val (.long q2), .second, .val (.int (((8 : Int32) * (2 : Int32)) * (2 : Int32)))] [(.ref w3), (.int (((8 : Int32) * (2 : Int32)) * (2 : Int32)))])) rfl rfl (hb hby d5_47) _ ?_
    rw [len_of S_w3 N_w3]
    show Steps p.tables e below (T5.setTop (mkF m 48 #[.val (.ref a1), .val (.long q2), .second, .val (.int (((8 : Int32) * (2 : Int32)) * (2 : Int32)))] [(.int (8 : Int32)), (.int (((8 : Int32) * (2 : Int32)) * (2 : Int32)))])) _
    refine XS.icmpNo X5.here hx rfl (hb hby d5_48) rfl (tlt hc48).2.2.2 ?_
    show Steps p.tables e below (T5.setTop (mkF m 51 #[.val (.ref a1), .val (.long q2), .second, .val (.int (((8 : Int32) * (2 : Int32)) * (2 : Int32)))] [])) _
    refine XS.aloadN X5.here hx rfl (hb hby d5_51) rfl rfl ?_
    show Steps p.tables e below (T5.setTop (mkF m 52 #[.val (.ref a1), .val (.long q2), .second, .val (.int (((8 : Int32) * (2 : Int32)) * (2 : Int32)))] [(.ref a1)])) _
    refine XS.iloadN X5.here hx rfl (hb hby d5_52) rfl ?_
    show Steps p.tables e below (T5.setTop (mkF m 53 #[.val (.ref a1), .val (.long q2), .second, .val (.int (((8 : Int32) * (2 : Int32)) * (2 : Int32)))] [(.int (((8 : Int32) * (2 : Int32)) * (2 : Int32))), (.ref a1)])) _
    refine st6.trans ?_
    show Steps p.tables e below (T6.setTop (mkF m 56 #[.val (.ref a1), .val (.long q2), .second, .val (.int (((8 : Int32) * (2 : Int32)) * (2 : Int32)))] [])) _
    exact X6.returnOut hx Bd.returns (hb hby d5_56) hr
  · show Q5 Z a1 zz h0 n0 _ T6.heap _
    exact ⟨rfl, N6, K6, Ec6, b6, k6b, Fh6, hz ▸ Vb6⟩
set_option maxRecDepth 65536 in
set_option maxHeartbeats 40000000 in
theorem rm5_3 (l : Launch) (Z : State) (a0 : Array Value) (hw : ∀ d ∈ tables_1, d.before a0 Z = true) (ws : List Jvm.Cond) (a1 : Addr) (q2 : Int64) (w3 : Addr) (cl_w3 : Cell) (kw : ClassId) (w9 : Addr) (u9 zz : Int32) (h0 : Heap) (n0 : Nat) (Z0 : n0 ≤ h0.size) (F_slotHashes_a1 : Fld Z h0 a1 "com/example/wheredb/wheredb/storage/MemorySet" "slotHashes" "[I" (.ref w3)) (Ar_w3 : Arr Z h0 w3 cl_w3 .int) (S_w3 : cl_w3.slots.size = (8 : Int32).toNatClampNeg) (N_w3 : ¬ (8 : Int32) < 0) (E_a1 : Exa Z h0 a1 "com/example/wheredb/wheredb/storage/MemorySet") (F_slotCells_a1 : Fld Z h0 a1 "com/example/wheredb/wheredb/storage/MemorySet" "slotCells" "[J" (.ref w9)) (F_slotShift_a1 : Fld Z h0 a1 "com/example/wheredb/wheredb/storage/MemorySet" "slotShift" "I" (.int u9)) (g_a1 : n0 ≤ a1) (V5 : Arv Z h0 w3 kw .int (8 : Int32) [] (.int (0 : Int32))) (hz : ((((8 : Int32) * (2 : Int32)) * (2 : Int32)) * (2 : Int32)) = zz) (hc5 : ¬ ((0 : Int32) < (lcmpW q2 (805306368 : Int64)))) (hnz26 : ¬ ((4 : Int32) = (0 : Int32))) (hc32 : (lcmpW ((((8 : Int32) / (4 : Int32)) * (3 : Int32)).toInt64) q2) < (0 : Int32)) (hnz26_25 : ¬ ((4 : Int32) = (0 : Int32))) (hc32_31 : (lcmpW (((((8 : Int32) * (2 : Int32)) / (4 : Int32)) * (3 : Int32)).toInt64) q2) < (0 : Int32)) (hnz26_39 : ¬ ((4 : Int32) = (0 : Int32))) (hc32_45 : (lcmpW ((((((8 : Int32) * (2 : Int32)) * (2 : Int32)) / (4 : Int32)) * (3 : Int32)).toInt64) q2) < (0 : Int32)) (hnz26_53 : ¬ ((4 : Int32) = (0 : Int32))) (hc32_59 : ¬ ((lcmpW (((((((8 : Int32) * (2 : Int32)) * (2 : Int32)) * (2 : Int32)) / (4 : Int32)) * (3 : Int32)).toInt64) q2) < (0 : Int32))) (hc48 : (8 : Int32) < ((((8 : Int32) * (2 : Int32)) * (2 : Int32)) * (2 : Int32))) :
    MetFree l (⟨"com/example/wheredb/wheredb/storage/MemorySet", "reserve", "(J)V"⟩ : MethodName) (head1 (Jvm.Cond.code (⟨"com/example/wheredb/wheredb/storage/MemorySet", "reserve", "(J)V"⟩ : MethodName) prog_17_method_5_code 4 none :: ws) ({ frames := 2, cells := 2, slots := 2048, locals := 33 } : Room)) (fun a U => a = #[(.ref a1), (.long q2)] ∧ Z.Warmed39 U.vm ∧ U.heap = h0) (fun _ _ _ _ _ => True) (fun _ U o U' => ∃ v L, o = .returned v ∧ Q5 Z a1 zz h0 n0 v U'.heap L ∧ FrameEnd U o U' L ({ frames := 2, cells := 2, slots := 2048, locals := 33 } : Room).cells ({ frames := 2, cells := 2, slots := 2048, locals := 33 } : Room).slots) := by
  refine MetFree.of_bodySF (plainFor_of_name pn_5) hisR ?_
  intro p e s m args below meth c s₁ Bd hml0 hP hK
  obtain ⟨rfl, hZ, hh⟩ := hP
  have hx := Bd.exec
  have hby := Bd.bytes
  have hml : c.maxLocals = 4 := hml0
  have hown : s.vm.findClass "com/example/wheredb/wheredb/storage/MemorySet" = some m.cls := findClass_of_methodNamed Bd.named
  have hnm := (name_of_methodNamed Bd.named Bd.method).1
  have X0 : Stand p l e ({ frames := 2, cells := 2, slots := 2048, locals := 33 } : Room) s m #[(.ref a1), (.long q2)] below meth c s₁ [] 0 0 := Stand.of_body Bd
  have e0 : s₁.heap = h0 := by rw [← hh, Bd.state]; rfl
  have N0 := Fr.nil n0
  have pre0 : ∀ t, Steps p.tables e below (s₁.setTop (mkF m 0 #[.val (.ref a1), .val (.long q2), .second, .unset] [])) t → Steps p.tables e below (s₁.setTop (entryFrame m #[(.ref a1), (.long q2)] 4)) t := fun t k => castTop (ef_5 m a1 q2) k
  obtain ⟨T4, X4, e4, st4⟩ := getF X0 hx hZ hown (host := "") (Or.inl (hw _ (List.mem_of_getElem? (i := 17) rfl))) Via.refl e0 F_slotHashes_a1 (g := (mkF m 19 #[.val (.ref a1), .val (.long q2), .second, .unset] [(.ref a1)])) rfl rfl (hb hby d5_19)
  obtain ⟨T5, X5, e5, st5⟩ := getF X4 hx hZ hown (host := "") (Or.inl (hw _ (List.mem_of_getElem? (i := 17) rfl))) Via.refl e4 F_slotHashes_a1 (g := (mkF m 44 #[.val (.ref a1), .val (.long q2), .second, .val (.int ((((8 : Int32) * (2 : Int32)) * (2 : Int32)) * (2 : Int32)))] [(.ref a1), (.int ((((8 : Int32) * (2 : Int32)) * (2 : Int32)) * (2 : Int32)))])) rfl rfl (hb hby d5_44)
  obtain ⟨cq6, q6, q6'⟩ := E_a1.cell
  obtain ⟨_, _, ⟨T6, L6, k6, n6⟩, -, X6, ⟨Lc6, hQ6, l6, y6, z6⟩, st6⟩ := X5.privateBack hx (y := (⟨"com/example/wheredb/wheredb/storage/MemorySet", "growTable", "(I)V"⟩ : MethodName)) hown (mvT hZ (hw _ (List.mem_of_getElem? (i := 40) rfl))) (mvT hZ (hw _ (List.mem_of_getElem? (i := 41) rfl))) (own_sel (mvT hZ (hw _ (List.mem_of_getElem? (i := 1) rfl))) (Cond.privateMethod_at (mvP hZ (hw _ (List.mem_of_getElem? (i := 42) rfl)) (args := #[]))) (mvT hZ (hw _ (List.mem_of_getElem? (i := 41) rfl))) (by decide)) (Cond.privateMethod_at (mvP hZ (hw _ (List.mem_of_getElem? (i := 42) rfl)) (args := #[]))) (mvT hZ (hw _ (List.mem_of_getElem? (i := 43) rfl))) (by decide) (backOf (W := 0) (rm6 l Z a0 hw [] a1 ((((8 : Int32) * (2 : Int32)) * (2 : Int32)) * (2 : Int32)) w3 w9 (.int u9) kw h0 n0 Z0 F_slotHashes_a1 F_slotCells_a1 E_a1 g_a1 F_slotShift_a1 V5 (by unfold Pw; decide)) hZ (hw _ (List.mem_of_getElem? (i := 43) rfl)) (hw _ (List.mem_of_getElem? (i := 2) rfl)) (by decide) (by decide)) (g := (mkF m 53 #[.val (.ref a1), .val (.long q2), .second, .val (.int ((((8 : Int32) * (2 : Int32)) * (2 : Int32)) * (2 : Int32)))] [(.int ((((8 : Int32) * (2 : Int32)) * (2 : Int32)) * (2 : Int32))), (.ref a1)])) rfl (by rw [hml]; rfl) (Steps.refl _) (a := a1) (by rw [e5]; exact q6) q6' (argsL := [(.int ((((8 : Int32) * (2 : Int32)) * (2 : Int32)) * (2 : Int32)))]) (rest := []) (lenOf pd_5_4 rfl) rfl (by show 2 * 0 + _ ≤ _; exact Nat.le_of_eq rfl) (hb hby d5_53) (fun _ _ => ⟨rfl, e5, (by decide : 0 + 2 ≤ _), (by decide : 0 + 2048 ≤ _)⟩)
  dsimp only [Pt.U, Pt.locs, Pt.cells, Pt.slots] at X6 l6 y6 z6 st6 hQ6
  subst l6 y6 z6
  obtain ⟨rfl, N6q, Kc6, Ec6, b6, k6b, Fh6, Vb6⟩ := hQ6
  have N6 := Fr.app N0 N6q
  have K6 : Keep h0 T6.heap [a1] := (Keep.refl h0 [a1]).trans Kc6 (allS (Or.inl (List.mem_of_getElem? (i := 0) rfl)) all0)
  obtain ⟨fs, hr, hrun, hended, hW, hsame⟩ := X6.leave (v := none) (fun _ => rfl)
  refine ⟨_, _, pre0 _ ?_, hrun, hended, _, _, rfl, ?_, ⟨_, rfl⟩, hW, hsame.mono (by decide) (by decide)⟩
  · show Steps p.tables e below (s₁.setTop (mkF m 0 #[.val (.ref a1), .val (.long q2), .second, .unset] [])) _
    refine XS.lloadN X0.here hx rfl (hb hby d5_0) rfl ?_
    show Steps p.tables e below (s₁.setTop (mkF m 1 #[.val (.ref a1), .val (.long q2), .second, .unset] [(.long q2)])) _
    refine X0.ldc2Long hx hown (mvT hZ (hw _ (List.mem_of_getElem? (i := 39) rfl))) (g := (mkF m 1 #[.val (.ref a1), .val (.long q2), .second, .unset] [(.long q2)])) rfl (hb hby d5_1) _ ?_
    show Steps p.tables e below (s₁.setTop (mkF m 4 #[.val (.ref a1), .val (.long q2), .second, .unset] [(.long (805306368 : Int64)), (.long q2)])) _
    refine XS.lcmp X0.here hx rfl (hb hby d5_4) rfl ?_
    show Steps p.tables e below (s₁.setTop (mkF m 5 #[.val (.ref a1), .val (.long q2), .second, .unset] [(.int (lcmpW q2 (805306368 : Int64)))])) _
    refine XS.ifYes X0.here hx rfl (pc0 := 5) (pc' := 18) rfl (hb hby d5_5) rfl ((if0 _ _).trans (flt hc5).2.2.2) (by decide) (by decide) ?_
    show Steps p.tables e below (s₁.setTop (mkF m 18 #[.val (.ref a1), .val (.long q2), .second, .unset] [])) _
    refine XS.aloadN X0.here hx rfl (hb hby d5_18) rfl rfl ?_
    show Steps p.tables e below (s₁.setTop (mkF m 19 #[.val (.ref a1), .val (.long q2), .second, .unset] [(.ref a1)])) _
    refine st4 _ ?_
    show Steps p.tables e below (T4.setTop (mkF m 22 #[.val (.ref a1), .val (.long q2), .second, .unset] [(.ref w3)])) _
    refine X4.arraylength hx (by rw [e4]; exact Ar_w3.1) (State.isArrayOf_alike hZ.alike Ar_w3.2.1) (g := (mkF m 22 #[.val (.ref a1), .val (.long q2), .second, .unset] [(.ref w3)])) rfl rfl (hb hby d5_22) _ ?_
    rw [len_of S_w3 N_w3]
    show Steps p.tables e below (T4.setTop (mkF m 23 #[.val (.ref a1), .val (.long q2), .second, .unset] [(.int (8 : Int32))])) _
    refine XS.istoreN X4.here hx rfl (hb hby d5_23) rfl (l' := #[.val (.ref a1), .val (.long q2), .second, .val (.int (8 : Int32))]) rfl ?_
    show Steps p.tables e below (T4.setTop (mkF m 24 #[.val (.ref a1), .val (.long q2), .second, .val (.int (8 : Int32))] [])) _
    refine XS.iloadN X4.here hx rfl (hb hby d5_24) rfl ?_
    show Steps p.tables e below (T4.setTop (mkF m 25 #[.val (.ref a1), .val (.long q2), .second, .val (.int (8 : Int32))] [(.int (8 : Int32))])) _
    refine XS.iconst X4.here hx rfl (hb hby d5_25) ?_
    show Steps p.tables e below (T4.setTop (mkF m 26 #[.val (.ref a1), .val (.long q2), .second, .val (.int (8 : Int32))] [(.int (4 : Int32)), (.int (8 : Int32))])) _
    refine XS.idiv X4.here hx rfl (hb hby d5_26) rfl hnz26 ?_
    show Steps p.tables e below (T4.setTop (mkF m 27 #[.val (.ref a1), .val (.long q2), .second, .val (.int (8 : Int32))] [(.int ((8 : Int32) / (4 : Int32)))])) _
    refine XS.iconst X4.here hx rfl (hb hby d5_27) ?_
    show Steps p.tables e below (T4.setTop (mkF m 28 #[.val (.ref a1), .val (.long q2), .second, .val (.int (8 : Int32))] [(.int (3 : Int32)), (.int ((8 : Int32) / (4 : Int32)))])) _
    refine XS.imul X4.here hx rfl (hb hby d5_28) rfl ?_
    show Steps p.tables e below (T4.setTop (mkF m 29 #[.val (.ref a1), .val (.long q2), .second, .val (.int (8 : Int32))] [(.int (((8 : Int32) / (4 : Int32)) * (3 : Int32)))])) _
    refine XS.i2l X4.here hx rfl (hb hby d5_29) rfl ?_
    show Steps p.tables e below (T4.setTop (mkF m 30 #[.val (.ref a1), .val (.long q2), .second, .val (.int (8 : Int32))] [(.long ((((8 : Int32) / (4 : Int32)) * (3 : Int32)).toInt64))])) _
    refine XS.lloadN X4.here hx rfl (hb hby d5_30) rfl ?_
    show Steps p.tables e below (T4.setTop (mkF m 31 #[.val (.ref a1), .val (.long q2), .second, .val (.int (8 : Int32))] [(.long q2), (.long ((((8 : Int32) / (4 : Int32)) * (3 : Int32)).toInt64))])) _
    refine XS.lcmp X4.here hx rfl (hb hby d5_31) rfl ?_
    show Steps p.tables e below (T4.setTop (mkF m 32 #[.val (.ref a1), .val (.long q2), .second, .val (.int (8 : Int32))] [(.int (lcmpW ((((8 : Int32) / (4 : Int32)) * (3 : Int32)).toInt64) q2))])) _
    refine XS.ifNo X4.here hx rfl (hb hby d5_32) rfl ((if0 _ _).trans (tlt hc32).2.1) ?_
    show Steps p.tables e below (T4.setTop (mkF m 35 #[.val (.ref a1), .val (.long q2), .second, .val (.int (8 : Int32))] [])) _
    refine XS.iloadN X4.here hx rfl (hb hby d5_35) rfl ?_
    show Steps p.tables e below (T4.setTop (mkF m 36 #[.val (.ref a1), .val (.long q2), .second, .val (.int (8 : Int32))] [(.int (8 : Int32))])) _
    refine XS.iconst X4.here hx rfl (hb hby d5_36) ?_
    show Steps p.tables e below (T4.setTop (mkF m 37 #[.val (.ref a1), .val (.long q2), .second, .val (.int (8 : Int32))] [(.int (2 : Int32)), (.int (8 : Int32))])) _
    refine XS.imul X4.here hx rfl (hb hby d5_37) rfl ?_
    show Steps p.tables e below (T4.setTop (mkF m 38 #[.val (.ref a1), .val (.long q2), .second, .val (.int (8 : Int32))] [(.int ((8 : Int32) * (2 : Int32)))])) _
    refine XS.istoreN X4.here hx rfl (hb hby d5_38) rfl (l' := #[.val (.ref a1), .val (.long q2), .second, .val (.int ((8 : Int32) * (2 : Int32)))]) rfl ?_
    show Steps p.tables e below (T4.setTop (mkF m 39 #[.val (.ref a1), .val (.long q2), .second, .val (.int ((8 : Int32) * (2 : Int32)))] [])) _
    refine XS.goto X4.here hx rfl (pc0 := 39) (pc' := 24) rfl (hb hby d5_39) (by decide) (by decide) ?_
    show Steps p.tables e below (T4.setTop (mkF m 24 #[.val (.ref a1), .val (.long q2), .second, .val (.int ((8 : Int32) * (2 : Int32)))] [])) _
    refine XS.iloadN X4.here hx rfl (hb hby d5_24) rfl ?_
    show Steps p.tables e below (T4.setTop (mkF m 25 #[.val (.ref a1), .val (.long q2), .second, .val (.int ((8 : Int32) * (2 : Int32)))] [(.int ((8 : Int32) * (2 : Int32)))])) _
    refine XS.iconst X4.here hx rfl (hb hby d5_25) ?_
    show Steps p.tables e below (T4.setTop (mkF m 26 #[.val (.ref a1), .val (.long q2), .second, .val (.int ((8 : Int32) * (2 : Int32)))] [(.int (4 : Int32)), (.int ((8 : Int32) * (2 : Int32)))])) _
    refine XS.idiv X4.here hx rfl (hb hby d5_26) rfl hnz26_25 ?_
    show Steps p.tables e below (T4.setTop (mkF m 27 #[.val (.ref a1), .val (.long q2), .second, .val (.int ((8 : Int32) * (2 : Int32)))] [(.int (((8 : Int32) * (2 : Int32)) / (4 : Int32)))])) _
    refine XS.iconst X4.here hx rfl (hb hby d5_27) ?_
    show Steps p.tables e below (T4.setTop (mkF m 28 #[.val (.ref a1), .val (.long q2), .second, .val (.int ((8 : Int32) * (2 : Int32)))] [(.int (3 : Int32)), (.int (((8 : Int32) * (2 : Int32)) / (4 : Int32)))])) _
    refine XS.imul X4.here hx rfl (hb hby d5_28) rfl ?_
    show Steps p.tables e below (T4.setTop (mkF m 29 #[.val (.ref a1), .val (.long q2), .second, .val (.int ((8 : Int32) * (2 : Int32)))] [(.int ((((8 : Int32) * (2 : Int32)) / (4 : Int32)) * (3 : Int32)))])) _
    refine XS.i2l X4.here hx rfl (hb hby d5_29) rfl ?_
    show Steps p.tables e below (T4.setTop (mkF m 30 #[.val (.ref a1), .val (.long q2), .second, .val (.int ((8 : Int32) * (2 : Int32)))] [(.long (((((8 : Int32) * (2 : Int32)) / (4 : Int32)) * (3 : Int32)).toInt64))])) _
    refine XS.lloadN X4.here hx rfl (hb hby d5_30) rfl ?_
    show Steps p.tables e below (T4.setTop (mkF m 31 #[.val (.ref a1), .val (.long q2), .second, .val (.int ((8 : Int32) * (2 : Int32)))] [(.long q2), (.long (((((8 : Int32) * (2 : Int32)) / (4 : Int32)) * (3 : Int32)).toInt64))])) _
    refine XS.lcmp X4.here hx rfl (hb hby d5_31) rfl ?_
    show Steps p.tables e below (T4.setTop (mkF m 32 #[.val (.ref a1), .val (.long q2), .second, .val (.int ((8 : Int32) * (2 : Int32)))] [(.int (lcmpW (((((8 : Int32) * (2 : Int32)) / (4 : Int32)) * (3 : Int32)).toInt64) q2))])) _
    refine XS.ifNo X4.here hx rfl (hb hby d5_32) rfl ((if0 _ _).trans (tlt hc32_31).2.1) ?_
    show Steps p.tables e below (T4.setTop (mkF m 35 #[.val (.ref a1), .val (.long q2), .second, .val (.int ((8 : Int32) * (2 : Int32)))] [])) _
    refine XS.iloadN X4.here hx rfl (hb hby d5_35) rfl ?_
    show Steps p.tables e below (T4.setTop (mkF m 36 #[.val (.ref a1), .val (.long q2), .second, .val (.int ((8 : Int32) * (2 : Int32)))] [(.int ((8 : Int32) * (2 : Int32)))])) _
    refine XS.iconst X4.here hx rfl (hb hby d5_36) ?_
    show Steps p.tables e below (T4.setTop (mkF m 37 #[.val (.ref a1), .val (.long q2), .second, .val (.int ((8 : Int32) * (2 : Int32)))] [(.int (2 : Int32)), (.int ((8 : Int32) * (2 : Int32)))])) _
    refine XS.imul X4.here hx rfl (hb hby d5_37) rfl ?_
    show Steps p.tables e below (T4.setTop (mkF m 38 #[.val (.ref a1), .val (.long q2), .second, .val (.int ((8 : Int32) * (2 : Int32)))] [(.int (((8 : Int32) * (2 : Int32)) * (2 : Int32)))])) _
    refine XS.istoreN X4.here hx rfl (hb hby d5_38) rfl (l' := #[.val (.ref a1), .val (.long q2), .second, .val (.int (((8 : Int32) * (2 : Int32)) * (2 : Int32)))]) rfl ?_
    show Steps p.tables e below (T4.setTop (mkF m 39 #[.val (.ref a1), .val (.long q2), .second, .val (.int (((8 : Int32) * (2 : Int32)) * (2 : Int32)))] [])) _
    refine XS.goto X4.here hx rfl (pc0 := 39) (pc' := 24) rfl (hb hby d5_39) (by decide) (by decide) ?_
    show Steps p.tables e below (T4.setTop (mkF m 24 #[.val (.ref a1), .val (.long q2), .second, .val (.int (((8 : Int32) * (2 : Int32)) * (2 : Int32)))] [])) _
    refine XS.iloadN X4.here hx rfl (hb hby d5_24) rfl ?_
    show Steps p.tables e below (T4.setTop (mkF m 25 #[.val (.ref a1), .val (.long q2), .second, .val (.int (((8 : Int32) * (2 : Int32)) * (2 : Int32)))] [(.int (((8 : Int32) * (2 : Int32)) * (2 : Int32)))])) _
    refine XS.iconst X4.here hx rfl (hb hby d5_25) ?_
    show Steps p.tables e below (T4.setTop (mkF m 26 #[.val (.ref a1), .val (.long q2), .second, .val (.int (((8 : Int32) * (2 : Int32)) * (2 : Int32)))] [(.int (4 : Int32)), (.int (((8 : Int32) * (2 : Int32)) * (2 : Int32)))])) _
    refine XS.idiv X4.here hx rfl (hb hby d5_26) rfl hnz26_39 ?_
    show Steps p.tables e below (T4.setTop (mkF m 27 #[.val (.ref a1), .val (.long q2), .second, .val (.int (((8 : Int32) * (2 : Int32)) * (2 : Int32)))] [(.int ((((8 : Int32) * (2 : Int32)) * (2 : Int32)) / (4 : Int32)))])) _
    refine XS.iconst X4.here hx rfl (hb hby d5_27) ?_
    show Steps p.tables e below (T4.setTop (mkF m 28 #[.val (.ref a1), .val (.long q2), .second, .val (.int (((8 : Int32) * (2 : Int32)) * (2 : Int32)))] [(.int (3 : Int32)), (.int ((((8 : Int32) * (2 : Int32)) * (2 : Int32)) / (4 : Int32)))])) _
    refine XS.imul X4.here hx rfl (hb hby d5_28) rfl ?_
    show Steps p.tables e below (T4.setTop (mkF m 29 #[.val (.ref a1), .val (.long q2), .second, .val (.int (((8 : Int32) * (2 : Int32)) * (2 : Int32)))] [(.int (((((8 : Int32) * (2 : Int32)) * (2 : Int32)) / (4 : Int32)) * (3 : Int32)))])) _
    refine XS.i2l X4.here hx rfl (hb hby d5_29) rfl ?_
    show Steps p.tables e below (T4.setTop (mkF m 30 #[.val (.ref a1), .val (.long q2), .second, .val (.int (((8 : Int32) * (2 : Int32)) * (2 : Int32)))] [(.long ((((((8 : Int32) * (2 : Int32)) * (2 : Int32)) / (4 : Int32)) * (3 : Int32)).toInt64))])) _
    refine XS.lloadN X4.here hx rfl (hb hby d5_30) rfl ?_
    show Steps p.tables e below (T4.setTop (mkF m 31 #[.val (.ref a1), .val (.long q2), .second, .val (.int (((8 : Int32) * (2 : Int32)) * (2 : Int32)))] [(.long q2), (.long ((((((8 : Int32) * (2 : Int32)) * (2 : Int32)) / (4 : Int32)) * (3 : Int32)).toInt64))])) _
    refine XS.lcmp X4.here hx rfl (hb hby d5_31) rfl ?_
    show Steps p.tables e below (T4.setTop (mkF m 32 #[.val (.ref a1), .val (.long q2), .second, .val (.int (((8 : Int32) * (2 : Int32)) * (2 : Int32)))] [(.int (lcmpW ((((((8 : Int32) * (2 : Int32)) * (2 : Int32)) / (4 : Int32)) * (3 : Int32)).toInt64) q2))])) _
    refine XS.ifNo X4.here hx rfl (hb hby d5_32) rfl ((if0 _ _).trans (tlt hc32_45).2.1) ?_
    show Steps p.tables e below (T4.setTop (mkF m 35 #[.val (.ref a1), .val (.long q2), .second, .val (.int (((8 : Int32) * (2 : Int32)) * (2 : Int32)))] [])) _
    refine XS.iloadN X4.here hx rfl (hb hby d5_35) rfl ?_
    show Steps p.tables e below (T4.setTop (mkF m 36 #[.val (.ref a1), .val (.long q2), .second, .val (.int (((8 : Int32) * (2 : Int32)) * (2 : Int32)))] [(.int (((8 : Int32) * (2 : Int32)) * (2 : Int32)))])) _
    refine XS.iconst X4.here hx rfl (hb hby d5_36) ?_
    show Steps p.tables e below (T4.setTop (mkF m 37 #[.val (.ref a1), .val (.long q2), .second, .val (.int (((8 : Int32) * (2 : Int32)) * (2 : Int32)))] [(.int (2 : Int32)), (.int (((8 : Int32) * (2 : Int32)) * (2 : Int32)))])) _
    refine XS.imul X4.here hx rfl (hb hby d5_37) rfl ?_
    show Steps p.tables e below (T4.setTop (mkF m 38 #[.val (.ref a1), .val (.long q2), .second, .val (.int (((8 : Int32) * (2 : Int32)) * (2 : Int32)))] [(.int ((((8 : Int32) * (2 : Int32)) * (2 : Int32)) * (2 : Int32)))])) _
    refine XS.istoreN X4.here hx rfl (hb hby d5_38) rfl (l' := #[.val (.ref a1), .val (.long q2), .second, .val (.int ((((8 : Int32) * (2 : Int32)) * (2 : Int32)) * (2 : Int32)))]) rfl ?_
    show Steps p.tables e below (T4.setTop (mkF m 39 #[.val (.ref a1), .val (.long q2), .second, .val (.int ((((8 : Int32) * (2 : Int32)) * (2 : Int32)) * (2 : Int32)))] [])) _
    refine XS.goto X4.here hx rfl (pc0 := 39) (pc' := 24) rfl (hb hby d5_39) (by decide) (by decide) ?_
    show Steps p.tables e below (T4.setTop (mkF m 24 #[.val (.ref a1), .val (.long q2), .second, .val (.int ((((8 : Int32) * (2 : Int32)) * (2 : Int32)) * (2 : Int32)))] [])) _
    refine XS.iloadN X4.here hx rfl (hb hby d5_24) rfl ?_
    show Steps p.tables e below (T4.setTop (mkF m 25 #[.val (.ref a1), .val (.long q2), .second, .val (.int ((((8 : Int32) * (2 : Int32)) * (2 : Int32)) * (2 : Int32)))] [(.int ((((8 : Int32) * (2 : Int32)) * (2 : Int32)) * (2 : Int32)))])) _
    refine XS.iconst X4.here hx rfl (hb hby d5_25) ?_
    show Steps p.tables e below (T4.setTop (mkF m 26 #[.val (.ref a1), .val (.long q2), .second, .val (.int ((((8 : Int32) * (2 : Int32)) * (2 : Int32)) * (2 : Int32)))] [(.int (4 : Int32)), (.int ((((8 : Int32) * (2 : Int32)) * (2 : Int32)) * (2 : Int32)))])) _
    refine XS.idiv X4.here hx rfl (hb hby d5_26) rfl hnz26_53 ?_
    show Steps p.tables e below (T4.setTop (mkF m 27 #[.val (.ref a1), .val (.long q2), .second, .val (.int ((((8 : Int32) * (2 : Int32)) * (2 : Int32)) * (2 : Int32)))] [(.int (((((8 : Int32) * (2 : Int32)) * (2 : Int32)) * (2 : Int32)) / (4 : Int32)))])) _
    refine XS.iconst X4.here hx rfl (hb hby d5_27) ?_
    show Steps p.tables e below (T4.setTop (mkF m 28 #[.val (.ref a1), .val (.long q2), .second, .val (.int ((((8 : Int32) * (2 : Int32)) * (2 : Int32)) * (2 : Int32)))] [(.int (3 : Int32)), (.int (((((8 : Int32) * (2 : Int32)) * (2 : Int32)) * (2 : Int32)) / (4 : Int32)))])) _
    refine XS.imul X4.here hx rfl (hb hby d5_28) rfl ?_
    show Steps p.tables e below (T4.setTop (mkF m 29 #[.val (.ref a1), .val (.long q2), .second, .val (.int ((((8 : Int32) * (2 : Int32)) * (2 : Int32)) * (2 : Int32)))] [(.int ((((((8 : Int32) * (2 : Int32)) * (2 : Int32)) * (2 : Int32)) / (4 : Int32)) * (3 : Int32)))])) _
    refine XS.i2l X4.here hx rfl (hb hby d5_29) rfl ?_
    show Steps p.tables e below (T4.setTop (mkF m 30 #[.val (.ref a1), .val (.long q2), .second, .val (.int ((((8 : Int32) * (2 : Int32)) * (2 : Int32)) * (2 : Int32)))] [(.long (((((((8 : Int32) * (2 : Int32)) * (2 : Int32)) * (2 : Int32)) / (4 : Int32)) * (3 : Int32)).toInt64))])) _
    refine XS.lloadN X4.here hx rfl (hb hby d5_30) rfl ?_
    show Steps p.tables e below (T4.setTop (mkF m 31 #[.val (.ref a1), .val (.long q2), .second, .val (.int ((((8 : Int32) * (2 : Int32)) * (2 : Int32)) * (2 : Int32)))] [(.long q2), (.long (((((((8 : Int32) * (2 : Int32)) * (2 : Int32)) * (2 : Int32)) / (4 : Int32)) * (3 : Int32)).toInt64))])) _
    refine XS.lcmp X4.here hx rfl (hb hby d5_31) rfl ?_
    show Steps p.tables e below (T4.setTop (mkF m 32 #[.val (.ref a1), .val (.long q2), .second, .val (.int ((((8 : Int32) * (2 : Int32)) * (2 : Int32)) * (2 : Int32)))] [(.int (lcmpW (((((((8 : Int32) * (2 : Int32)) * (2 : Int32)) * (2 : Int32)) / (4 : Int32)) * (3 : Int32)).toInt64) q2))])) _
    refine XS.ifYes X4.here hx rfl (pc0 := 32) (pc' := 42) rfl (hb hby d5_32) rfl ((if0 _ _).trans (flt hc32_59).2.1) (by decide) (by decide) ?_
    show Steps p.tables e below (T4.setTop (mkF m 42 #[.val (.ref a1), .val (.long q2), .second, .val (.int ((((8 : Int32) * (2 : Int32)) * (2 : Int32)) * (2 : Int32)))] [])) _
    refine XS.iloadN X4.here hx rfl (hb hby d5_42) rfl ?_
    show Steps p.tables e below (T4.setTop (mkF m 43 #[.val (.ref a1), .val (.long q2), .second, .val (.int ((((8 : Int32) * (2 : Int32)) * (2 : Int32)) * (2 : Int32)))] [(.int ((((8 : Int32) * (2 : Int32)) * (2 : Int32)) * (2 : Int32)))])) _
    refine XS.aloadN X4.here hx rfl (hb hby d5_43) rfl rfl ?_
    show Steps p.tables e below (T4.setTop (mkF m 44 #[.val (.ref a1), .val (.long q2), .second, .val (.int ((((8 : Int32) * (2 : Int32)) * (2 : Int32)) * (2 : Int32)))] [(.ref a1), (.int ((((8 : Int32) * (2 : Int32)) * (2 : Int32)) * (2 : Int32)))])) _
    refine st5 _ ?_
    show Steps p.tables e below (T5.setTop (mkF m 47 #[.val (.ref a1), .val (.long q2), .second, .val (.int ((((8 : Int32) * (2 : Int32)) * (2 : Int32)) * (2 : Int32)))] [(.ref w3), (.int ((((8 : Int32) * (2 : Int32)) * (2 : Int32)) * (2 : Int32)))])) _
    refine X5.arraylength hx (by rw [e5]; exact Ar_w3.1) (State.isArrayOf_alike hZ.alike Ar_w3.2.1) (g := (mkF m 47 #[.val (.ref a1), .val (.long q2), .second, .val (.int ((((8 : Int32) * (2 : Int32)) * (2 : Int32)) * (2 : Int32)))] [(.ref w3), (.int ((((8 : Int32) * (2 : Int32)) * (2 : Int32)) * (2 : Int32)))])) rfl rfl (hb hby d5_47) _ ?_
    rw [len_of S_w3 N_w3]
    show Steps p.tables e below (T5.setTop (mkF m 48 #[.val (.ref a1), .val (.long q2), .second, .val (.int ((((8 : Int32) * (2 : Int32)) * (2 : Int32)) * (2 : Int32)))] [(.int (8 : Int32)), (.int ((((8 : Int32) * (2 : Int32)) * (2 : Int32)) * (2 : Int32)))])) _
    refine XS.icmpNo X5.here hx rfl (hb hby d5_48) rfl (tlt hc48).2.2.2 ?_
    show Steps p.tables e below (T5.setTop (mkF m 51 #[.val (.ref a1), .val (.long q2), .second, .val (.int ((((8 : Int32) * (2 : Int32)) * (2 : Int32)) * (2 : Int32)))] [])) _
    refine XS.aloadN X5.here hx rfl (hb hby d5_51) rfl rfl ?_
    show Steps p.tables e below (T5.setTop (mkF m 52 #[.val (.ref a1), .val (.long q2), .second, .val (.int ((((8 : Int32) * (2 : Int32)) * (2 : Int32)) * (2 : Int32)))] [(.ref a1)])) _
    refine XS.iloadN X5.here hx rfl (hb hby d5_52) rfl ?_
    show Steps p.tables e below (T5.setTop (mkF m 53 #[.val (.ref a1), .val (.long q2), .second, .val (.int ((((8 : Int32) * (2 : Int32)) * (2 : Int32)) * (2 : Int32)))] [(.int ((((8 : Int32) * (2 : Int32)) * (2 : Int32)) * (2 : Int32))), (.ref a1)])) _
    refine st6.trans ?_
    show Steps p.tables e below (T6.setTop (mkF m 56 #[.val (.ref a1), .val (.long q2), .second, .val (.int ((((8 : Int32) * (2 : Int32)) * (2 : Int32)) * (2 : Int32)))] [])) _
    exact X6.returnOut hx Bd.returns (hb hby d5_56) hr
  · show Q5 Z a1 zz h0 n0 _ T6.heap _
    exact ⟨rfl, N6, K6, Ec6, b6, k6b, Fh6, hz ▸ Vb6⟩
set_option maxRecDepth 65536 in
set_option maxHeartbeats 40000000 in
theorem rm5_4 (l : Launch) (Z : State) (a0 : Array Value) (hw : ∀ d ∈ tables_1, d.before a0 Z = true) (ws : List Jvm.Cond) (a1 : Addr) (q2 : Int64) (w3 : Addr) (cl_w3 : Cell) (kw : ClassId) (w9 : Addr) (u9 zz : Int32) (h0 : Heap) (n0 : Nat) (Z0 : n0 ≤ h0.size) (F_slotHashes_a1 : Fld Z h0 a1 "com/example/wheredb/wheredb/storage/MemorySet" "slotHashes" "[I" (.ref w3)) (Ar_w3 : Arr Z h0 w3 cl_w3 .int) (S_w3 : cl_w3.slots.size = (8 : Int32).toNatClampNeg) (N_w3 : ¬ (8 : Int32) < 0) (E_a1 : Exa Z h0 a1 "com/example/wheredb/wheredb/storage/MemorySet") (F_slotCells_a1 : Fld Z h0 a1 "com/example/wheredb/wheredb/storage/MemorySet" "slotCells" "[J" (.ref w9)) (F_slotShift_a1 : Fld Z h0 a1 "com/example/wheredb/wheredb/storage/MemorySet" "slotShift" "I" (.int u9)) (g_a1 : n0 ≤ a1) (V5 : Arv Z h0 w3 kw .int (8 : Int32) [] (.int (0 : Int32))) (hz : (((((8 : Int32) * (2 : Int32)) * (2 : Int32)) * (2 : Int32)) * (2 : Int32)) = zz) (hc5 : ¬ ((0 : Int32) < (lcmpW q2 (805306368 : Int64)))) (hnz26 : ¬ ((4 : Int32) = (0 : Int32))) (hc32 : (lcmpW ((((8 : Int32) / (4 : Int32)) * (3 : Int32)).toInt64) q2) < (0 : Int32)) (hnz26_25 : ¬ ((4 : Int32) = (0 : Int32))) (hc32_31 : (lcmpW (((((8 : Int32) * (2 : Int32)) / (4 : Int32)) * (3 : Int32)).toInt64) q2) < (0 : Int32)) (hnz26_39 : ¬ ((4 : Int32) = (0 : Int32))) (hc32_45 : (lcmpW ((((((8 : Int32) * (2 : Int32)) * (2 : Int32)) / (4 : Int32)) * (3 : Int32)).toInt64) q2) < (0 : Int32)) (hnz26_53 : ¬ ((4 : Int32) = (0 : Int32))) (hc32_59 : (lcmpW (((((((8 : Int32) * (2 : Int32)) * (2 : Int32)) * (2 : Int32)) / (4 : Int32)) * (3 : Int32)).toInt64) q2) < (0 : Int32)) (hnz26_67 : ¬ ((4 : Int32) = (0 : Int32))) (hc32_73 : ¬ ((lcmpW ((((((((8 : Int32) * (2 : Int32)) * (2 : Int32)) * (2 : Int32)) * (2 : Int32)) / (4 : Int32)) * (3 : Int32)).toInt64) q2) < (0 : Int32))) (hc48 : (8 : Int32) < (((((8 : Int32) * (2 : Int32)) * (2 : Int32)) * (2 : Int32)) * (2 : Int32))) :
    MetFree l (⟨"com/example/wheredb/wheredb/storage/MemorySet", "reserve", "(J)V"⟩ : MethodName) (head1 (Jvm.Cond.code (⟨"com/example/wheredb/wheredb/storage/MemorySet", "reserve", "(J)V"⟩ : MethodName) prog_17_method_5_code 4 none :: ws) ({ frames := 2, cells := 2, slots := 2048, locals := 33 } : Room)) (fun a U => a = #[(.ref a1), (.long q2)] ∧ Z.Warmed39 U.vm ∧ U.heap = h0) (fun _ _ _ _ _ => True) (fun _ U o U' => ∃ v L, o = .returned v ∧ Q5 Z a1 zz h0 n0 v U'.heap L ∧ FrameEnd U o U' L ({ frames := 2, cells := 2, slots := 2048, locals := 33 } : Room).cells ({ frames := 2, cells := 2, slots := 2048, locals := 33 } : Room).slots) := by
  refine MetFree.of_bodySF (plainFor_of_name pn_5) hisR ?_
  intro p e s m args below meth c s₁ Bd hml0 hP hK
  obtain ⟨rfl, hZ, hh⟩ := hP
  have hx := Bd.exec
  have hby := Bd.bytes
  have hml : c.maxLocals = 4 := hml0
  have hown : s.vm.findClass "com/example/wheredb/wheredb/storage/MemorySet" = some m.cls := findClass_of_methodNamed Bd.named
  have hnm := (name_of_methodNamed Bd.named Bd.method).1
  have X0 : Stand p l e ({ frames := 2, cells := 2, slots := 2048, locals := 33 } : Room) s m #[(.ref a1), (.long q2)] below meth c s₁ [] 0 0 := Stand.of_body Bd
  have e0 : s₁.heap = h0 := by rw [← hh, Bd.state]; rfl
  have N0 := Fr.nil n0
  have pre0 : ∀ t, Steps p.tables e below (s₁.setTop (mkF m 0 #[.val (.ref a1), .val (.long q2), .second, .unset] [])) t → Steps p.tables e below (s₁.setTop (entryFrame m #[(.ref a1), (.long q2)] 4)) t := fun t k => castTop (ef_5 m a1 q2) k
  obtain ⟨T4, X4, e4, st4⟩ := getF X0 hx hZ hown (host := "") (Or.inl (hw _ (List.mem_of_getElem? (i := 17) rfl))) Via.refl e0 F_slotHashes_a1 (g := (mkF m 19 #[.val (.ref a1), .val (.long q2), .second, .unset] [(.ref a1)])) rfl rfl (hb hby d5_19)
  obtain ⟨T5, X5, e5, st5⟩ := getF X4 hx hZ hown (host := "") (Or.inl (hw _ (List.mem_of_getElem? (i := 17) rfl))) Via.refl e4 F_slotHashes_a1 (g := (mkF m 44 #[.val (.ref a1), .val (.long q2), .second, .val (.int (((((8 : Int32) * (2 : Int32)) * (2 : Int32)) * (2 : Int32)) * (2 : Int32)))] [(.ref a1), (.int (((((8 : Int32) * (2 : Int32)) * (2 : Int32)) * (2 : Int32)) * (2 : Int32)))])) rfl rfl (hb hby d5_44)
  obtain ⟨cq6, q6, q6'⟩ := E_a1.cell
  obtain ⟨_, _, ⟨T6, L6, k6, n6⟩, -, X6, ⟨Lc6, hQ6, l6, y6, z6⟩, st6⟩ := X5.privateBack hx (y := (⟨"com/example/wheredb/wheredb/storage/MemorySet", "growTable", "(I)V"⟩ : MethodName)) hown (mvT hZ (hw _ (List.mem_of_getElem? (i := 40) rfl))) (mvT hZ (hw _ (List.mem_of_getElem? (i := 41) rfl))) (own_sel (mvT hZ (hw _ (List.mem_of_getElem? (i := 1) rfl))) (Cond.privateMethod_at (mvP hZ (hw _ (List.mem_of_getElem? (i := 42) rfl)) (args := #[]))) (mvT hZ (hw _ (List.mem_of_getElem? (i := 41) rfl))) (by decide)) (Cond.privateMethod_at (mvP hZ (hw _ (List.mem_of_getElem? (i := 42) rfl)) (args := #[]))) (mvT hZ (hw _ (List.mem_of_getElem? (i := 43) rfl))) (by decide) (backOf (W := 0) (rm6 l Z a0 hw [] a1 (((((8 : Int32) * (2 : Int32)) * (2 : Int32)) * (2 : Int32)) * (2 : Int32)) w3 w9 (.int u9) kw h0 n0 Z0 F_slotHashes_a1 F_slotCells_a1 E_a1 g_a1 F_slotShift_a1 V5 (by unfold Pw; decide)) hZ (hw _ (List.mem_of_getElem? (i := 43) rfl)) (hw _ (List.mem_of_getElem? (i := 2) rfl)) (by decide) (by decide)) (g := (mkF m 53 #[.val (.ref a1), .val (.long q2), .second, .val (.int (((((8 : Int32) * (2 : Int32)) * (2 : Int32)) * (2 : Int32)) * (2 : Int32)))] [(.int (((((8 : Int32) * (2 : Int32)) * (2 : Int32)) * (2 : Int32)) * (2 : Int32))), (.ref a1)])) rfl (by rw [hml]; rfl) (Steps.refl _) (a := a1) (by rw [e5]; exact q6) q6' (argsL := [(.int (((((8 : Int32) * (2 : Int32)) * (2 : Int32)) * (2 : Int32)) * (2 : Int32)))]) (rest := []) (lenOf pd_5_4 rfl) rfl (by show 2 * 0 + _ ≤ _; exact Nat.le_of_eq rfl) (hb hby d5_53) (fun _ _ => ⟨rfl, e5, (by decide : 0 + 2 ≤ _), (by decide : 0 + 2048 ≤ _)⟩)
  dsimp only [Pt.U, Pt.locs, Pt.cells, Pt.slots] at X6 l6 y6 z6 st6 hQ6
  subst l6 y6 z6
  obtain ⟨rfl, N6q, Kc6, Ec6, b6, k6b, Fh6, Vb6⟩ := hQ6
  have N6 := Fr.app N0 N6q
  have K6 : Keep h0 T6.heap [a1] := (Keep.refl h0 [a1]).trans Kc6 (allS (Or.inl (List.mem_of_getElem? (i := 0) rfl)) all0)
  obtain ⟨fs, hr, hrun, hended, hW, hsame⟩ := X6.leave (v := none) (fun _ => rfl)
  refine ⟨_, _, pre0 _ ?_, hrun, hended, _, _, rfl, ?_, ⟨_, rfl⟩, hW, hsame.mono (by decide) (by decide)⟩
  · show Steps p.tables e below (s₁.setTop (mkF m 0 #[.val (.ref a1), .val (.long q2), .second, .unset] [])) _
    refine XS.lloadN X0.here hx rfl (hb hby d5_0) rfl ?_
    show Steps p.tables e below (s₁.setTop (mkF m 1 #[.val (.ref a1), .val (.long q2), .second, .unset] [(.long q2)])) _
    refine X0.ldc2Long hx hown (mvT hZ (hw _ (List.mem_of_getElem? (i := 39) rfl))) (g := (mkF m 1 #[.val (.ref a1), .val (.long q2), .second, .unset] [(.long q2)])) rfl (hb hby d5_1) _ ?_
    show Steps p.tables e below (s₁.setTop (mkF m 4 #[.val (.ref a1), .val (.long q2), .second, .unset] [(.long (805306368 : Int64)), (.long q2)])) _
    refine XS.lcmp X0.here hx rfl (hb hby d5_4) rfl ?_
    show Steps p.tables e below (s₁.setTop (mkF m 5 #[.val (.ref a1), .val (.long q2), .second, .unset] [(.int (lcmpW q2 (805306368 : Int64)))])) _
    refine XS.ifYes X0.here hx rfl (pc0 := 5) (pc' := 18) rfl (hb hby d5_5) rfl ((if0 _ _).trans (flt hc5).2.2.2) (by decide) (by decide) ?_
    show Steps p.tables e below (s₁.setTop (mkF m 18 #[.val (.ref a1), .val (.long q2), .second, .unset] [])) _
    refine XS.aloadN X0.here hx rfl (hb hby d5_18) rfl rfl ?_
    show Steps p.tables e below (s₁.setTop (mkF m 19 #[.val (.ref a1), .val (.long q2), .second, .unset] [(.ref a1)])) _
    refine st4 _ ?_
    show Steps p.tables e below (T4.setTop (mkF m 22 #[.val (.ref a1), .val (.long q2), .second, .unset] [(.ref w3)])) _
    refine X4.arraylength hx (by rw [e4]; exact Ar_w3.1) (State.isArrayOf_alike hZ.alike Ar_w3.2.1) (g := (mkF m 22 #[.val (.ref a1), .val (.long q2), .second, .unset] [(.ref w3)])) rfl rfl (hb hby d5_22) _ ?_
    rw [len_of S_w3 N_w3]
    show Steps p.tables e below (T4.setTop (mkF m 23 #[.val (.ref a1), .val (.long q2), .second, .unset] [(.int (8 : Int32))])) _
    refine XS.istoreN X4.here hx rfl (hb hby d5_23) rfl (l' := #[.val (.ref a1), .val (.long q2), .second, .val (.int (8 : Int32))]) rfl ?_
    show Steps p.tables e below (T4.setTop (mkF m 24 #[.val (.ref a1), .val (.long q2), .second, .val (.int (8 : Int32))] [])) _
    refine XS.iloadN X4.here hx rfl (hb hby d5_24) rfl ?_
    show Steps p.tables e below (T4.setTop (mkF m 25 #[.val (.ref a1), .val (.long q2), .second, .val (.int (8 : Int32))] [(.int (8 : Int32))])) _
    refine XS.iconst X4.here hx rfl (hb hby d5_25) ?_
    show Steps p.tables e below (T4.setTop (mkF m 26 #[.val (.ref a1), .val (.long q2), .second, .val (.int (8 : Int32))] [(.int (4 : Int32)), (.int (8 : Int32))])) _
    refine XS.idiv X4.here hx rfl (hb hby d5_26) rfl hnz26 ?_
    show Steps p.tables e below (T4.setTop (mkF m 27 #[.val (.ref a1), .val (.long q2), .second, .val (.int (8 : Int32))] [(.int ((8 : Int32) / (4 : Int32)))])) _
    refine XS.iconst X4.here hx rfl (hb hby d5_27) ?_
    show Steps p.tables e below (T4.setTop (mkF m 28 #[.val (.ref a1), .val (.long q2), .second, .val (.int (8 : Int32))] [(.int (3 : Int32)), (.int ((8 : Int32) / (4 : Int32)))])) _
    refine XS.imul X4.here hx rfl (hb hby d5_28) rfl ?_
    show Steps p.tables e below (T4.setTop (mkF m 29 #[.val (.ref a1), .val (.long q2), .second, .val (.int (8 : Int32))] [(.int (((8 : Int32) / (4 : Int32)) * (3 : Int32)))])) _
    refine XS.i2l X4.here hx rfl (hb hby d5_29) rfl ?_
    show Steps p.tables e below (T4.setTop (mkF m 30 #[.val (.ref a1), .val (.long q2), .second, .val (.int (8 : Int32))] [(.long ((((8 : Int32) / (4 : Int32)) * (3 : Int32)).toInt64))])) _
    refine XS.lloadN X4.here hx rfl (hb hby d5_30) rfl ?_
    show Steps p.tables e below (T4.setTop (mkF m 31 #[.val (.ref a1), .val (.long q2), .second, .val (.int (8 : Int32))] [(.long q2), (.long ((((8 : Int32) / (4 : Int32)) * (3 : Int32)).toInt64))])) _
    refine XS.lcmp X4.here hx rfl (hb hby d5_31) rfl ?_
    show Steps p.tables e below (T4.setTop (mkF m 32 #[.val (.ref a1), .val (.long q2), .second, .val (.int (8 : Int32))] [(.int (lcmpW ((((8 : Int32) / (4 : Int32)) * (3 : Int32)).toInt64) q2))])) _
    refine XS.ifNo X4.here hx rfl (hb hby d5_32) rfl ((if0 _ _).trans (tlt hc32).2.1) ?_
    show Steps p.tables e below (T4.setTop (mkF m 35 #[.val (.ref a1), .val (.long q2), .second, .val (.int (8 : Int32))] [])) _
    refine XS.iloadN X4.here hx rfl (hb hby d5_35) rfl ?_
    show Steps p.tables e below (T4.setTop (mkF m 36 #[.val (.ref a1), .val (.long q2), .second, .val (.int (8 : Int32))] [(.int (8 : Int32))])) _
    refine XS.iconst X4.here hx rfl (hb hby d5_36) ?_
    show Steps p.tables e below (T4.setTop (mkF m 37 #[.val (.ref a1), .val (.long q2), .second, .val (.int (8 : Int32))] [(.int (2 : Int32)), (.int (8 : Int32))])) _
    refine XS.imul X4.here hx rfl (hb hby d5_37) rfl ?_
    show Steps p.tables e below (T4.setTop (mkF m 38 #[.val (.ref a1), .val (.long q2), .second, .val (.int (8 : Int32))] [(.int ((8 : Int32) * (2 : Int32)))])) _
    refine XS.istoreN X4.here hx rfl (hb hby d5_38) rfl (l' := #[.val (.ref a1), .val (.long q2), .second, .val (.int ((8 : Int32) * (2 : Int32)))]) rfl ?_
    show Steps p.tables e below (T4.setTop (mkF m 39 #[.val (.ref a1), .val (.long q2), .second, .val (.int ((8 : Int32) * (2 : Int32)))] [])) _
    refine XS.goto X4.here hx rfl (pc0 := 39) (pc' := 24) rfl (hb hby d5_39) (by decide) (by decide) ?_
    show Steps p.tables e below (T4.setTop (mkF m 24 #[.val (.ref a1), .val (.long q2), .second, .val (.int ((8 : Int32) * (2 : Int32)))] [])) _
    refine XS.iloadN X4.here hx rfl (hb hby d5_24) rfl ?_
    show Steps p.tables e below (T4.setTop (mkF m 25 #[.val (.ref a1), .val (.long q2), .second, .val (.int ((8 : Int32) * (2 : Int32)))] [(.int ((8 : Int32) * (2 : Int32)))])) _
    refine XS.iconst X4.here hx rfl (hb hby d5_25) ?_
    show Steps p.tables e below (T4.setTop (mkF m 26 #[.val (.ref a1), .val (.long q2), .second, .val (.int ((8 : Int32) * (2 : Int32)))] [(.int (4 : Int32)), (.int ((8 : Int32) * (2 : Int32)))])) _
    refine XS.idiv X4.here hx rfl (hb hby d5_26) rfl hnz26_25 ?_
    show Steps p.tables e below (T4.setTop (mkF m 27 #[.val (.ref a1), .val (.long q2), .second, .val (.int ((8 : Int32) * (2 : Int32)))] [(.int (((8 : Int32) * (2 : Int32)) / (4 : Int32)))])) _
    refine XS.iconst X4.here hx rfl (hb hby d5_27) ?_
    show Steps p.tables e below (T4.setTop (mkF m 28 #[.val (.ref a1), .val (.long q2), .second, .val (.int ((8 : Int32) * (2 : Int32)))] [(.int (3 : Int32)), (.int (((8 : Int32) * (2 : Int32)) / (4 : Int32)))])) _
    refine XS.imul X4.here hx rfl (hb hby d5_28) rfl ?_
    show Steps p.tables e below (T4.setTop (mkF m 29 #[.val (.ref a1), .val (.long q2), .second, .val (.int ((8 : Int32) * (2 : Int32)))] [(.int ((((8 : Int32) * (2 : Int32)) / (4 : Int32)) * (3 : Int32)))])) _
    refine XS.i2l X4.here hx rfl (hb hby d5_29) rfl ?_
    show Steps p.tables e below (T4.setTop (mkF m 30 #[.val (.ref a1), .val (.long q2), .second, .val (.int ((8 : Int32) * (2 : Int32)))] [(.long (((((8 : Int32) * (2 : Int32)) / (4 : Int32)) * (3 : Int32)).toInt64))])) _
    refine XS.lloadN X4.here hx rfl (hb hby d5_30) rfl ?_
    show Steps p.tables e below (T4.setTop (mkF m 31 #[.val (.ref a1), .val (.long q2), .second, .val (.int ((8 : Int32) * (2 : Int32)))] [(.long q2), (.long (((((8 : Int32) * (2 : Int32)) / (4 : Int32)) * (3 : Int32)).toInt64))])) _
    refine XS.lcmp X4.here hx rfl (hb hby d5_31) rfl ?_
    show Steps p.tables e below (T4.setTop (mkF m 32 #[.val (.ref a1), .val (.long q2), .second, .val (.int ((8 : Int32) * (2 : Int32)))] [(.int (lcmpW (((((8 : Int32) * (2 : Int32)) / (4 : Int32)) * (3 : Int32)).toInt64) q2))])) _
    refine XS.ifNo X4.here hx rfl (hb hby d5_32) rfl ((if0 _ _).trans (tlt hc32_31).2.1) ?_
    show Steps p.tables e below (T4.setTop (mkF m 35 #[.val (.ref a1), .val (.long q2), .second, .val (.int ((8 : Int32) * (2 : Int32)))] [])) _
    refine XS.iloadN X4.here hx rfl (hb hby d5_35) rfl ?_
    show Steps p.tables e below (T4.setTop (mkF m 36 #[.val (.ref a1), .val (.long q2), .second, .val (.int ((8 : Int32) * (2 : Int32)))] [(.int ((8 : Int32) * (2 : Int32)))])) _
    refine XS.iconst X4.here hx rfl (hb hby d5_36) ?_
    show Steps p.tables e below (T4.setTop (mkF m 37 #[.val (.ref a1), .val (.long q2), .second, .val (.int ((8 : Int32) * (2 : Int32)))] [(.int (2 : Int32)), (.int ((8 : Int32) * (2 : Int32)))])) _
    refine XS.imul X4.here hx rfl (hb hby d5_37) rfl ?_
    show Steps p.tables e below (T4.setTop (mkF m 38 #[.val (.ref a1), .val (.long q2), .second, .val (.int ((8 : Int32) * (2 : Int32)))] [(.int (((8 : Int32) * (2 : Int32)) * (2 : Int32)))])) _
    refine XS.istoreN X4.here hx rfl (hb hby d5_38) rfl (l' := #[.val (.ref a1), .val (.long q2), .second, .val (.int (((8 : Int32) * (2 : Int32)) * (2 : Int32)))]) rfl ?_
    show Steps p.tables e below (T4.setTop (mkF m 39 #[.val (.ref a1), .val (.long q2), .second, .val (.int (((8 : Int32) * (2 : Int32)) * (2 : Int32)))] [])) _
    refine XS.goto X4.here hx rfl (pc0 := 39) (pc' := 24) rfl (hb hby d5_39) (by decide) (by decide) ?_
    show Steps p.tables e below (T4.setTop (mkF m 24 #[.val (.ref a1), .val (.long q2), .second, .val (.int (((8 : Int32) * (2 : Int32)) * (2 : Int32)))] [])) _
    refine XS.iloadN X4.here hx rfl (hb hby d5_24) rfl ?_
    show Steps p.tables e below (T4.setTop (mkF m 25 #[.val (.ref a1), .val (.long q2), .second, .val (.int (((8 : Int32) * (2 : Int32)) * (2 : Int32)))] [(.int (((8 : Int32) * (2 : Int32)) * (2 : Int32)))])) _
    refine XS.iconst X4.here hx rfl (hb hby d5_25) ?_
    show Steps p.tables e below (T4.setTop (mkF m 26 #[.val (.ref a1), .val (.long q2), .second, .val (.int (((8 : Int32) * (2 : Int32)) * (2 : Int32)))] [(.int (4 : Int32)), (.int (((8 : Int32) * (2 : Int32)) * (2 : Int32)))])) _
    refine XS.idiv X4.here hx rfl (hb hby d5_26) rfl hnz26_39 ?_
    show Steps p.tables e below (T4.setTop (mkF m 27 #[.val (.ref a1), .val (.long q2), .second, .val (.int (((8 : Int32) * (2 : Int32)) * (2 : Int32)))] [(.int ((((8 : Int32) * (2 : Int32)) * (2 : Int32)) / (4 : Int32)))])) _
    refine XS.iconst X4.here hx rfl (hb hby d5_27) ?_
    show Steps p.tables e below (T4.setTop (mkF m 28 #[.val (.ref a1), .val (.long q2), .second, .val (.int (((8 : Int32) * (2 : Int32)) * (2 : Int32)))] [(.int (3 : Int32)), (.int ((((8 : Int32) * (2 : Int32)) * (2 : Int32)) / (4 : Int32)))])) _
    refine XS.imul X4.here hx rfl (hb hby d5_28) rfl ?_
    show Steps p.tables e below (T4.setTop (mkF m 29 #[.val (.ref a1), .val (.long q2), .second, .val (.int (((8 : Int32) * (2 : Int32)) * (2 : Int32)))] [(.int (((((8 : Int32) * (2 : Int32)) * (2 : Int32)) / (4 : Int32)) * (3 : Int32)))])) _
    refine XS.i2l X4.here hx rfl (hb hby d5_29) rfl ?_
    show Steps p.tables e below (T4.setTop (mkF m 30 #[.val (.ref a1), .val (.long q2), .second, .val (.int (((8 : Int32) * (2 : Int32)) * (2 : Int32)))] [(.long ((((((8 : Int32) * (2 : Int32)) * (2 : Int32)) / (4 : Int32)) * (3 : Int32)).toInt64))])) _
    refine XS.lloadN X4.here hx rfl (hb hby d5_30) rfl ?_
    show Steps p.tables e below (T4.setTop (mkF m 31 #[.val (.ref a1), .val (.long q2), .second, .val (.int (((8 : Int32) * (2 : Int32)) * (2 : Int32)))] [(.long q2), (.long ((((((8 : Int32) * (2 : Int32)) * (2 : Int32)) / (4 : Int32)) * (3 : Int32)).toInt64))])) _
    refine XS.lcmp X4.here hx rfl (hb hby d5_31) rfl ?_
    show Steps p.tables e below (T4.setTop (mkF m 32 #[.val (.ref a1), .val (.long q2), .second, .val (.int (((8 : Int32) * (2 : Int32)) * (2 : Int32)))] [(.int (lcmpW ((((((8 : Int32) * (2 : Int32)) * (2 : Int32)) / (4 : Int32)) * (3 : Int32)).toInt64) q2))])) _
    refine XS.ifNo X4.here hx rfl (hb hby d5_32) rfl ((if0 _ _).trans (tlt hc32_45).2.1) ?_
    show Steps p.tables e below (T4.setTop (mkF m 35 #[.val (.ref a1), .val (.long q2), .second, .val (.int (((8 : Int32) * (2 : Int32)) * (2 : Int32)))] [])) _
    refine XS.iloadN X4.here hx rfl (hb hby d5_35) rfl ?_
    show Steps p.tables e below (T4.setTop (mkF m 36 #[.val (.ref a1), .val (.long q2), .second, .val (.int (((8 : Int32) * (2 : Int32)) * (2 : Int32)))] [(.int (((8 : Int32) * (2 : Int32)) * (2 : Int32)))])) _
    refine XS.iconst X4.here hx rfl (hb hby d5_36) ?_
    show Steps p.tables e below (T4.setTop (mkF m 37 #[.val (.ref a1), .val (.long q2), .second, .val (.int (((8 : Int32) * (2 : Int32)) * (2 : Int32)))] [(.int (2 : Int32)), (.int (((8 : Int32) * (2 : Int32)) * (2 : Int32)))])) _
    refine XS.imul X4.here hx rfl (hb hby d5_37) rfl ?_
    show Steps p.tables e below (T4.setTop (mkF m 38 #[.val (.ref a1), .val (.long q2), .second, .val (.int (((8 : Int32) * (2 : Int32)) * (2 : Int32)))] [(.int ((((8 : Int32) * (2 : Int32)) * (2 : Int32)) * (2 : Int32)))])) _
    refine XS.istoreN X4.here hx rfl (hb hby d5_38) rfl (l' := #[.val (.ref a1), .val (.long q2), .second, .val (.int ((((8 : Int32) * (2 : Int32)) * (2 : Int32)) * (2 : Int32)))]) rfl ?_
    show Steps p.tables e below (T4.setTop (mkF m 39 #[.val (.ref a1), .val (.long q2), .second, .val (.int ((((8 : Int32) * (2 : Int32)) * (2 : Int32)) * (2 : Int32)))] [])) _
    refine XS.goto X4.here hx rfl (pc0 := 39) (pc' := 24) rfl (hb hby d5_39) (by decide) (by decide) ?_
    show Steps p.tables e below (T4.setTop (mkF m 24 #[.val (.ref a1), .val (.long q2), .second, .val (.int ((((8 : Int32) * (2 : Int32)) * (2 : Int32)) * (2 : Int32)))] [])) _
    refine XS.iloadN X4.here hx rfl (hb hby d5_24) rfl ?_
    show Steps p.tables e below (T4.setTop (mkF m 25 #[.val (.ref a1), .val (.long q2), .second, .val (.int ((((8 : Int32) * (2 : Int32)) * (2 : Int32)) * (2 : Int32)))] [(.int ((((8 : Int32) * (2 : Int32)) * (2 : Int32)) * (2 : Int32)))])) _
    refine XS.iconst X4.here hx rfl (hb hby d5_25) ?_
    show Steps p.tables e below (T4.setTop (mkF m 26 #[.val (.ref a1), .val (.long q2), .second, .val (.int ((((8 : Int32) * (2 : Int32)) * (2 : Int32)) * (2 : Int32)))] [(.int (4 : Int32)), (.int ((((8 : Int32) * (2 : Int32)) * (2 : Int32)) * (2 : Int32)))])) _
    refine XS.idiv X4.here hx rfl (hb hby d5_26) rfl hnz26_53 ?_
    show Steps p.tables e below (T4.setTop (mkF m 27 #[.val (.ref a1), .val (.long q2), .second, .val (.int ((((8 : Int32) * (2 : Int32)) * (2 : Int32)) * (2 : Int32)))] [(.int (((((8 : Int32) * (2 : Int32)) * (2 : Int32)) * (2 : Int32)) / (4 : Int32)))])) _
    refine XS.iconst X4.here hx rfl (hb hby d5_27) ?_
    show Steps p.tables e below (T4.setTop (mkF m 28 #[.val (.ref a1), .val (.long q2), .second, .val (.int ((((8 : Int32) * (2 : Int32)) * (2 : Int32)) * (2 : Int32)))] [(.int (3 : Int32)), (.int (((((8 : Int32) * (2 : Int32)) * (2 : Int32)) * (2 : Int32)) / (4 : Int32)))])) _
    refine XS.imul X4.here hx rfl (hb hby d5_28) rfl ?_
    show Steps p.tables e below (T4.setTop (mkF m 29 #[.val (.ref a1), .val (.long q2), .second, .val (.int ((((8 : Int32) * (2 : Int32)) * (2 : Int32)) * (2 : Int32)))] [(.int ((((((8 : Int32) * (2 : Int32)) * (2 : Int32)) * (2 : Int32)) / (4 : Int32)) * (3 : Int32)))])) _
    refine XS.i2l X4.here hx rfl (hb hby d5_29) rfl ?_
    show Steps p.tables e below (T4.setTop (mkF m 30 #[.val (.ref a1), .val (.long q2), .second, .val (.int ((((8 : Int32) * (2 : Int32)) * (2 : Int32)) * (2 : Int32)))] [(.long (((((((8 : Int32) * (2 : Int32)) * (2 : Int32)) * (2 : Int32)) / (4 : Int32)) * (3 : Int32)).toInt64))])) _
    refine XS.lloadN X4.here hx rfl (hb hby d5_30) rfl ?_
    show Steps p.tables e below (T4.setTop (mkF m 31 #[.val (.ref a1), .val (.long q2), .second, .val (.int ((((8 : Int32) * (2 : Int32)) * (2 : Int32)) * (2 : Int32)))] [(.long q2), (.long (((((((8 : Int32) * (2 : Int32)) * (2 : Int32)) * (2 : Int32)) / (4 : Int32)) * (3 : Int32)).toInt64))])) _
    refine XS.lcmp X4.here hx rfl (hb hby d5_31) rfl ?_
    show Steps p.tables e below (T4.setTop (mkF m 32 #[.val (.ref a1), .val (.long q2), .second, .val (.int ((((8 : Int32) * (2 : Int32)) * (2 : Int32)) * (2 : Int32)))] [(.int (lcmpW (((((((8 : Int32) * (2 : Int32)) * (2 : Int32)) * (2 : Int32)) / (4 : Int32)) * (3 : Int32)).toInt64) q2))])) _
    refine XS.ifNo X4.here hx rfl (hb hby d5_32) rfl ((if0 _ _).trans (tlt hc32_59).2.1) ?_
    show Steps p.tables e below (T4.setTop (mkF m 35 #[.val (.ref a1), .val (.long q2), .second, .val (.int ((((8 : Int32) * (2 : Int32)) * (2 : Int32)) * (2 : Int32)))] [])) _
    refine XS.iloadN X4.here hx rfl (hb hby d5_35) rfl ?_
    show Steps p.tables e below (T4.setTop (mkF m 36 #[.val (.ref a1), .val (.long q2), .second, .val (.int ((((8 : Int32) * (2 : Int32)) * (2 : Int32)) * (2 : Int32)))] [(.int ((((8 : Int32) * (2 : Int32)) * (2 : Int32)) * (2 : Int32)))])) _
    refine XS.iconst X4.here hx rfl (hb hby d5_36) ?_
    show Steps p.tables e below (T4.setTop (mkF m 37 #[.val (.ref a1), .val (.long q2), .second, .val (.int ((((8 : Int32) * (2 : Int32)) * (2 : Int32)) * (2 : Int32)))] [(.int (2 : Int32)), (.int ((((8 : Int32) * (2 : Int32)) * (2 : Int32)) * (2 : Int32)))])) _
    refine XS.imul X4.here hx rfl (hb hby d5_37) rfl ?_
    show Steps p.tables e below (T4.setTop (mkF m 38 #[.val (.ref a1), .val (.long q2), .second, .val (.int ((((8 : Int32) * (2 : Int32)) * (2 : Int32)) * (2 : Int32)))] [(.int (((((8 : Int32) * (2 : Int32)) * (2 : Int32)) * (2 : Int32)) * (2 : Int32)))])) _
    refine XS.istoreN X4.here hx rfl (hb hby d5_38) rfl (l' := #[.val (.ref a1), .val (.long q2), .second, .val (.int (((((8 : Int32) * (2 : Int32)) * (2 : Int32)) * (2 : Int32)) * (2 : Int32)))]) rfl ?_
    show Steps p.tables e below (T4.setTop (mkF m 39 #[.val (.ref a1), .val (.long q2), .second, .val (.int (((((8 : Int32) * (2 : Int32)) * (2 : Int32)) * (2 : Int32)) * (2 : Int32)))] [])) _
    refine XS.goto X4.here hx rfl (pc0 := 39) (pc' := 24) rfl (hb hby d5_39) (by decide) (by decide) ?_
    show Steps p.tables e below (T4.setTop (mkF m 24 #[.val (.ref a1), .val (.long q2), .second, .val (.int (((((8 : Int32) * (2 : Int32)) * (2 : Int32)) * (2 : Int32)) * (2 : Int32)))] [])) _
    refine XS.iloadN X4.here hx rfl (hb hby d5_24) rfl ?_
    show Steps p.tables e below (T4.setTop (mkF m 25 #[.val (.ref a1), .val (.long q2), .second, .val (.int (((((8 : Int32) * (2 : Int32)) * (2 : Int32)) * (2 : Int32)) * (2 : Int32)))] [(.int (((((8 : Int32) * (2 : Int32)) * (2 : Int32)) * (2 : Int32)) * (2 : Int32)))])) _
    refine XS.iconst X4.here hx rfl (hb hby d5_25) ?_
    show Steps p.tables e below (T4.setTop (mkF m 26 #[.val (.ref a1), .val (.long q2), .second, .val (.int (((((8 : Int32) * (2 : Int32)) * (2 : Int32)) * (2 : Int32)) * (2 : Int32)))] [(.int (4 : Int32)), (.int (((((8 : Int32) * (2 : Int32)) * (2 : Int32)) * (2 : Int32)) * (2 : Int32)))])) _
    refine XS.idiv X4.here hx rfl (hb hby d5_26) rfl hnz26_67 ?_
    show Steps p.tables e below (T4.setTop (mkF m 27 #[.val (.ref a1), .val (.long q2), .second, .val (.int (((((8 : Int32) * (2 : Int32)) * (2 : Int32)) * (2 : Int32)) * (2 : Int32)))] [(.int ((((((8 : Int32) * (2 : Int32)) * (2 : Int32)) * (2 : Int32)) * (2 : Int32)) / (4 : Int32)))])) _
    refine XS.iconst X4.here hx rfl (hb hby d5_27) ?_
    show Steps p.tables e below (T4.setTop (mkF m 28 #[.val (.ref a1), .val (.long q2), .second, .val (.int (((((8 : Int32) * (2 : Int32)) * (2 : Int32)) * (2 : Int32)) * (2 : Int32)))] [(.int (3 : Int32)), (.int ((((((8 : Int32) * (2 : Int32)) * (2 : Int32)) * (2 : Int32)) * (2 : Int32)) / (4 : Int32)))])) _
    refine XS.imul X4.here hx rfl (hb hby d5_28) rfl ?_
    show Steps p.tables e below (T4.setTop (mkF m 29 #[.val (.ref a1), .val (.long q2), .second, .val (.int (((((8 : Int32) * (2 : Int32)) * (2 : Int32)) * (2 : Int32)) * (2 : Int32)))] [(.int (((((((8 : Int32) * (2 : Int32)) * (2 : Int32)) * (2 : Int32)) * (2 : Int32)) / (4 : Int32)) * (3 : Int32)))])) _
    refine XS.i2l X4.here hx rfl (hb hby d5_29) rfl ?_
    show Steps p.tables e below (T4.setTop (mkF m 30 #[.val (.ref a1), .val (.long q2), .second, .val (.int (((((8 : Int32) * (2 : Int32)) * (2 : Int32)) * (2 : Int32)) * (2 : Int32)))] [(.long ((((((((8 : Int32) * (2 : Int32)) * (2 : Int32)) * (2 : Int32)) * (2 : Int32)) / (4 : Int32)) * (3 : Int32)).toInt64))])) _
    refine XS.lloadN X4.here hx rfl (hb hby d5_30) rfl ?_
    show Steps p.tables e below (T4.setTop (mkF m 31 #[.val (.ref a1), .val (.long q2), .second, .val (.int (((((8 : Int32) * (2 : Int32)) * (2 : Int32)) * (2 : Int32)) * (2 : Int32)))] [(.long q2), (.long ((((((((8 : Int32) * (2 : Int32)) * (2 : Int32)) * (2 : Int32)) * (2 : Int32)) / (4 : Int32)) * (3 : Int32)).toInt64))])) _
    refine XS.lcmp X4.here hx rfl (hb hby d5_31) rfl ?_
    show Steps p.tables e below (T4.setTop (mkF m 32 #[.val (.ref a1), .val (.long q2), .second, .val (.int (((((8 : Int32) * (2 : Int32)) * (2 : Int32)) * (2 : Int32)) * (2 : Int32)))] [(.int (lcmpW ((((((((8 : Int32) * (2 : Int32)) * (2 : Int32)) * (2 : Int32)) * (2 : Int32)) / (4 : Int32)) * (3 : Int32)).toInt64) q2))])) _
    refine XS.ifYes X4.here hx rfl (pc0 := 32) (pc' := 42) rfl (hb hby d5_32) rfl ((if0 _ _).trans (flt hc32_73).2.1) (by decide) (by decide) ?_
    show Steps p.tables e below (T4.setTop (mkF m 42 #[.val (.ref a1), .val (.long q2), .second, .val (.int (((((8 : Int32) * (2 : Int32)) * (2 : Int32)) * (2 : Int32)) * (2 : Int32)))] [])) _
    refine XS.iloadN X4.here hx rfl (hb hby d5_42) rfl ?_
    show Steps p.tables e below (T4.setTop (mkF m 43 #[.val (.ref a1), .val (.long q2), .second, .val (.int (((((8 : Int32) * (2 : Int32)) * (2 : Int32)) * (2 : Int32)) * (2 : Int32)))] [(.int (((((8 : Int32) * (2 : Int32)) * (2 : Int32)) * (2 : Int32)) * (2 : Int32)))])) _
    refine XS.aloadN X4.here hx rfl (hb hby d5_43) rfl rfl ?_
    show Steps p.tables e below (T4.setTop (mkF m 44 #[.val (.ref a1), .val (.long q2), .second, .val (.int (((((8 : Int32) * (2 : Int32)) * (2 : Int32)) * (2 : Int32)) * (2 : Int32)))] [(.ref a1), (.int (((((8 : Int32) * (2 : Int32)) * (2 : Int32)) * (2 : Int32)) * (2 : Int32)))])) _
    refine st5 _ ?_
    show Steps p.tables e below (T5.setTop (mkF m 47 #[.val (.ref a1), .val (.long q2), .second, .val (.int (((((8 : Int32) * (2 : Int32)) * (2 : Int32)) * (2 : Int32)) * (2 : Int32)))] [(.ref w3), (.int (((((8 : Int32) * (2 : Int32)) * (2 : Int32)) * (2 : Int32)) * (2 : Int32)))])) _
    refine X5.arraylength hx (by rw [e5]; exact Ar_w3.1) (State.isArrayOf_alike hZ.alike Ar_w3.2.1) (g := (mkF m 47 #[.val (.ref a1), .val (.long q2), .second, .val (.int (((((8 : Int32) * (2 : Int32)) * (2 : Int32)) * (2 : Int32)) * (2 : Int32)))] [(.ref w3), (.int (((((8 : Int32) * (2 : Int32)) * (2 : Int32)) * (2 : Int32)) * (2 : Int32)))])) rfl rfl (hb hby d5_47) _ ?_
    rw [len_of S_w3 N_w3]
    show Steps p.tables e below (T5.setTop (mkF m 48 #[.val (.ref a1), .val (.long q2), .second, .val (.int (((((8 : Int32) * (2 : Int32)) * (2 : Int32)) * (2 : Int32)) * (2 : Int32)))] [(.int (8 : Int32)), (.int (((((8 : Int32) * (2 : Int32)) * (2 : Int32)) * (2 : Int32)) * (2 : Int32)))])) _
    refine XS.icmpNo X5.here hx rfl (hb hby d5_48) rfl (tlt hc48).2.2.2 ?_
    show Steps p.tables e below (T5.setTop (mkF m 51 #[.val (.ref a1), .val (.long q2), .second, .val (.int (((((8 : Int32) * (2 : Int32)) * (2 : Int32)) * (2 : Int32)) * (2 : Int32)))] [])) _
    refine XS.aloadN X5.here hx rfl (hb hby d5_51) rfl rfl ?_
    show Steps p.tables e below (T5.setTop (mkF m 52 #[.val (.ref a1), .val (.long q2), .second, .val (.int (((((8 : Int32) * (2 : Int32)) * (2 : Int32)) * (2 : Int32)) * (2 : Int32)))] [(.ref a1)])) _
    refine XS.iloadN X5.here hx rfl (hb hby d5_52) rfl ?_
    show Steps p.tables e below (T5.setTop (mkF m 53 #[.val (.ref a1), .val (.long q2), .second, .val (.int (((((8 : Int32) * (2 : Int32)) * (2 : Int32)) * (2 : Int32)) * (2 : Int32)))] [(.int (((((8 : Int32) * (2 : Int32)) * (2 : Int32)) * (2 : Int32)) * (2 : Int32))), (.ref a1)])) _
    refine st6.trans ?_
    show Steps p.tables e below (T6.setTop (mkF m 56 #[.val (.ref a1), .val (.long q2), .second, .val (.int (((((8 : Int32) * (2 : Int32)) * (2 : Int32)) * (2 : Int32)) * (2 : Int32)))] [])) _
    exact X6.returnOut hx Bd.returns (hb hby d5_56) hr
  · show Q5 Z a1 zz h0 n0 _ T6.heap _
    exact ⟨rfl, N6, K6, Ec6, b6, k6b, Fh6, hz ▸ Vb6⟩
set_option maxRecDepth 65536 in
set_option maxHeartbeats 40000000 in
theorem rm5_5 (l : Launch) (Z : State) (a0 : Array Value) (hw : ∀ d ∈ tables_1, d.before a0 Z = true) (ws : List Jvm.Cond) (a1 : Addr) (q2 : Int64) (w3 : Addr) (cl_w3 : Cell) (kw : ClassId) (w9 : Addr) (u9 zz : Int32) (h0 : Heap) (n0 : Nat) (Z0 : n0 ≤ h0.size) (F_slotHashes_a1 : Fld Z h0 a1 "com/example/wheredb/wheredb/storage/MemorySet" "slotHashes" "[I" (.ref w3)) (Ar_w3 : Arr Z h0 w3 cl_w3 .int) (S_w3 : cl_w3.slots.size = (8 : Int32).toNatClampNeg) (N_w3 : ¬ (8 : Int32) < 0) (E_a1 : Exa Z h0 a1 "com/example/wheredb/wheredb/storage/MemorySet") (F_slotCells_a1 : Fld Z h0 a1 "com/example/wheredb/wheredb/storage/MemorySet" "slotCells" "[J" (.ref w9)) (F_slotShift_a1 : Fld Z h0 a1 "com/example/wheredb/wheredb/storage/MemorySet" "slotShift" "I" (.int u9)) (g_a1 : n0 ≤ a1) (V5 : Arv Z h0 w3 kw .int (8 : Int32) [] (.int (0 : Int32))) (hz : ((((((8 : Int32) * (2 : Int32)) * (2 : Int32)) * (2 : Int32)) * (2 : Int32)) * (2 : Int32)) = zz) (hc5 : ¬ ((0 : Int32) < (lcmpW q2 (805306368 : Int64)))) (hnz26 : ¬ ((4 : Int32) = (0 : Int32))) (hc32 : (lcmpW ((((8 : Int32) / (4 : Int32)) * (3 : Int32)).toInt64) q2) < (0 : Int32)) (hnz26_25 : ¬ ((4 : Int32) = (0 : Int32))) (hc32_31 : (lcmpW (((((8 : Int32) * (2 : Int32)) / (4 : Int32)) * (3 : Int32)).toInt64) q2) < (0 : Int32)) (hnz26_39 : ¬ ((4 : Int32) = (0 : Int32))) (hc32_45 : (lcmpW ((((((8 : Int32) * (2 : Int32)) * (2 : Int32)) / (4 : Int32)) * (3 : Int32)).toInt64) q2) < (0 : Int32)) (hnz26_53 : ¬ ((4 : Int32) = (0 : Int32))) (hc32_59 : (lcmpW (((((((8 : Int32) * (2 : Int32)) * (2 : Int32)) * (2 : Int32)) / (4 : Int32)) * (3 : Int32)).toInt64) q2) < (0 : Int32)) (hnz26_67 : ¬ ((4 : Int32) = (0 : Int32))) (hc32_73 : (lcmpW ((((((((8 : Int32) * (2 : Int32)) * (2 : Int32)) * (2 : Int32)) * (2 : Int32)) / (4 : Int32)) * (3 : Int32)).toInt64) q2) < (0 : Int32)) (hnz26_81 : ¬ ((4 : Int32) = (0 : Int32))) (hc32_87 : ¬ ((lcmpW (((((((((8 : Int32) * (2 : Int32)) * (2 : Int32)) * (2 : Int32)) * (2 : Int32)) * (2 : Int32)) / (4 : Int32)) * (3 : Int32)).toInt64) q2) < (0 : Int32))) (hc48 : (8 : Int32) < ((((((8 : Int32) * (2 : Int32)) * (2 : Int32)) * (2 : Int32)) * (2 : Int32)) * (2 : Int32))) :
    MetFree l (⟨"com/example/wheredb/wheredb/storage/MemorySet", "reserve", "(J)V"⟩ : MethodName) (head1 (Jvm.Cond.code (⟨"com/example/wheredb/wheredb/storage/MemorySet", "reserve", "(J)V"⟩ : MethodName) prog_17_method_5_code 4 none :: ws) ({ frames := 2, cells := 2, slots := 2048, locals := 33 } : Room)) (fun a U => a = #[(.ref a1), (.long q2)] ∧ Z.Warmed39 U.vm ∧ U.heap = h0) (fun _ _ _ _ _ => True) (fun _ U o U' => ∃ v L, o = .returned v ∧ Q5 Z a1 zz h0 n0 v U'.heap L ∧ FrameEnd U o U' L ({ frames := 2, cells := 2, slots := 2048, locals := 33 } : Room).cells ({ frames := 2, cells := 2, slots := 2048, locals := 33 } : Room).slots) := by
  refine MetFree.of_bodySF (plainFor_of_name pn_5) hisR ?_
  intro p e s m args below meth c s₁ Bd hml0 hP hK
  obtain ⟨rfl, hZ, hh⟩ := hP
  have hx := Bd.exec
  have hby := Bd.bytes
  have hml : c.maxLocals = 4 := hml0
  have hown : s.vm.findClass "com/example/wheredb/wheredb/storage/MemorySet" = some m.cls := findClass_of_methodNamed Bd.named
  have hnm := (name_of_methodNamed Bd.named Bd.method).1
  have X0 : Stand p l e ({ frames := 2, cells := 2, slots := 2048, locals := 33 } : Room) s m #[(.ref a1), (.long q2)] below meth c s₁ [] 0 0 := Stand.of_body Bd
  have e0 : s₁.heap = h0 := by rw [← hh, Bd.state]; rfl
  have N0 := Fr.nil n0
  have pre0 : ∀ t, Steps p.tables e below (s₁.setTop (mkF m 0 #[.val (.ref a1), .val (.long q2), .second, .unset] [])) t → Steps p.tables e below (s₁.setTop (entryFrame m #[(.ref a1), (.long q2)] 4)) t := fun t k => castTop (ef_5 m a1 q2) k
  obtain ⟨T4, X4, e4, st4⟩ := getF X0 hx hZ hown (host := "") (Or.inl (hw _ (List.mem_of_getElem? (i := 17) rfl))) Via.refl e0 F_slotHashes_a1 (g := (mkF m 19 #[.val (.ref a1), .val (.long q2), .second, .unset] [(.ref a1)])) rfl rfl (hb hby d5_19)
  obtain ⟨T5, X5, e5, st5⟩ := getF X4 hx hZ hown (host := "") (Or.inl (hw _ (List.mem_of_getElem? (i := 17) rfl))) Via.refl e4 F_slotHashes_a1 (g := (mkF m 44 #[.val (.ref a1), .val (.long q2), .second, .val (.int ((((((8 : Int32) * (2 : Int32)) * (2 : Int32)) * (2 : Int32)) * (2 : Int32)) * (2 : Int32)))] [(.ref a1), (.int ((((((8 : Int32) * (2 : Int32)) * (2 : Int32)) * (2 : Int32)) * (2 : Int32)) * (2 : Int32)))])) rfl rfl (hb hby d5_44)
  obtain ⟨cq6, q6, q6'⟩ := E_a1.cell
  obtain ⟨_, _, ⟨T6, L6, k6, n6⟩, -, X6, ⟨Lc6, hQ6, l6, y6, z6⟩, st6⟩ := X5.privateBack hx (y := (⟨"com/example/wheredb/wheredb/storage/MemorySet", "growTable", "(I)V"⟩ : MethodName)) hown (mvT hZ (hw _ (List.mem_of_getElem? (i := 40) rfl))) (mvT hZ (hw _ (List.mem_of_getElem? (i := 41) rfl))) (own_sel (mvT hZ (hw _ (List.mem_of_getElem? (i := 1) rfl))) (Cond.privateMethod_at (mvP hZ (hw _ (List.mem_of_getElem? (i := 42) rfl)) (args := #[]))) (mvT hZ (hw _ (List.mem_of_getElem? (i := 41) rfl))) (by decide)) (Cond.privateMethod_at (mvP hZ (hw _ (List.mem_of_getElem? (i := 42) rfl)) (args := #[]))) (mvT hZ (hw _ (List.mem_of_getElem? (i := 43) rfl))) (by decide) (backOf (W := 0) (rm6 l Z a0 hw [] a1 ((((((8 : Int32) * (2 : Int32)) * (2 : Int32)) * (2 : Int32)) * (2 : Int32)) * (2 : Int32)) w3 w9 (.int u9) kw h0 n0 Z0 F_slotHashes_a1 F_slotCells_a1 E_a1 g_a1 F_slotShift_a1 V5 (by unfold Pw; decide)) hZ (hw _ (List.mem_of_getElem? (i := 43) rfl)) (hw _ (List.mem_of_getElem? (i := 2) rfl)) (by decide) (by decide)) (g := (mkF m 53 #[.val (.ref a1), .val (.long q2), .second, .val (.int ((((((8 : Int32) * (2 : Int32)) * (2 : Int32)) * (2 : Int32)) * (2 : Int32)) * (2 : Int32)))] [(.int ((((((8 : Int32) * (2 : Int32)) * (2 : Int32)) * (2 : Int32)) * (2 : Int32)) * (2 : Int32))), (.ref a1)])) rfl (by rw [hml]; rfl) (Steps.refl _) (a := a1) (by rw [e5]; exact q6) q6' (argsL := [(.int ((((((8 : Int32) * (2 : Int32)) * (2 : Int32)) * (2 : Int32)) * (2 : Int32)) * (2 : Int32)))]) (rest := []) (lenOf pd_5_4 rfl) rfl (by show 2 * 0 + _ ≤ _; exact Nat.le_of_eq rfl) (hb hby d5_53) (fun _ _ => ⟨rfl, e5, (by decide : 0 + 2 ≤ _), (by decide : 0 + 2048 ≤ _)⟩)
  dsimp only [Pt.U, Pt.locs, Pt.cells, Pt.slots] at X6 l6 y6 z6 st6 hQ6
  subst l6 y6 z6
  obtain ⟨rfl, N6q, Kc6, Ec6, b6, k6b, Fh6, Vb6⟩ := hQ6
  have N6 := Fr.app N0 N6q
  have K6 : Keep h0 T6.heap [a1] := (Keep.refl h0 [a1]).trans Kc6 (allS (Or.inl (List.mem_of_getElem? (i := 0) rfl)) all0)
  obtain ⟨fs, hr, hrun, hended, hW, hsame⟩ := X6.leave (v := none) (fun _ => rfl)
  refine ⟨_, _, pre0 _ ?_, hrun, hended, _, _, rfl, ?_, ⟨_, rfl⟩, hW, hsame.mono (by decide) (by decide)⟩
  · show Steps p.tables e below (s₁.setTop (mkF m 0 #[.val (.ref a1), .val (.long q2), .second, .unset] [])) _
    refine XS.lloadN X0.here hx rfl (hb hby d5_0) rfl ?_
    show Steps p.tables e below (s₁.setTop (mkF m 1 #[.val (.ref a1), .val (.long q2), .second, .unset] [(.long q2)])) _
    refine X0.ldc2Long hx hown (mvT hZ (hw _ (List.mem_of_getElem? (i := 39) rfl))) (g := (mkF m 1 #[.val (.ref a1), .val (.long q2), .second, .unset] [(.long q2)])) rfl (hb hby d5_1) _ ?_
    show Steps p.tables e below (s₁.setTop (mkF m 4 #[.val (.ref a1), .val (.long q2), .second, .unset] [(.long (805306368 : Int64)), (.long q2)])) _
    refine XS.lcmp X0.here hx rfl (hb hby d5_4) rfl ?_
    show Steps p.tables e below (s₁.setTop (mkF m 5 #[.val (.ref a1), .val (.long q2), .second, .unset] [(.int (lcmpW q2 (805306368 : Int64)))])) _
    refine XS.ifYes X0.here hx rfl (pc0 := 5) (pc' := 18) rfl (hb hby d5_5) rfl ((if0 _ _).trans (flt hc5).2.2.2) (by decide) (by decide) ?_
    show Steps p.tables e below (s₁.setTop (mkF m 18 #[.val (.ref a1), .val (.long q2), .second, .unset] [])) _
    refine XS.aloadN X0.here hx rfl (hb hby d5_18) rfl rfl ?_
    show Steps p.tables e below (s₁.setTop (mkF m 19 #[.val (.ref a1), .val (.long q2), .second, .unset] [(.ref a1)])) _
    refine st4 _ ?_
    show Steps p.tables e below (T4.setTop (mkF m 22 #[.val (.ref a1), .val (.long q2), .second, .unset] [(.ref w3)])) _
    refine X4.arraylength hx (by rw [e4]; exact Ar_w3.1) (State.isArrayOf_alike hZ.alike Ar_w3.2.1) (g := (mkF m 22 #[.val (.ref a1), .val (.long q2), .second, .unset] [(.ref w3)])) rfl rfl (hb hby d5_22) _ ?_
    rw [len_of S_w3 N_w3]
    show Steps p.tables e below (T4.setTop (mkF m 23 #[.val (.ref a1), .val (.long q2), .second, .unset] [(.int (8 : Int32))])) _
    refine XS.istoreN X4.here hx rfl (hb hby d5_23) rfl (l' := #[.val (.ref a1), .val (.long q2), .second, .val (.int (8 : Int32))]) rfl ?_
    show Steps p.tables e below (T4.setTop (mkF m 24 #[.val (.ref a1), .val (.long q2), .second, .val (.int (8 : Int32))] [])) _
    refine XS.iloadN X4.here hx rfl (hb hby d5_24) rfl ?_
    show Steps p.tables e below (T4.setTop (mkF m 25 #[.val (.ref a1), .val (.long q2), .second, .val (.int (8 : Int32))] [(.int (8 : Int32))])) _
    refine XS.iconst X4.here hx rfl (hb hby d5_25) ?_
    show Steps p.tables e below (T4.setTop (mkF m 26 #[.val (.ref a1), .val (.long q2), .second, .val (.int (8 : Int32))] [(.int (4 : Int32)), (.int (8 : Int32))])) _
    refine XS.idiv X4.here hx rfl (hb hby d5_26) rfl hnz26 ?_
    show Steps p.tables e below (T4.setTop (mkF m 27 #[.val (.ref a1), .val (.long q2), .second, .val (.int (8 : Int32))] [(.int ((8 : Int32) / (4 : Int32)))])) _
    refine XS.iconst X4.here hx rfl (hb hby d5_27) ?_
    show Steps p.tables e below (T4.setTop (mkF m 28 #[.val (.ref a1), .val (.long q2), .second, .val (.int (8 : Int32))] [(.int (3 : Int32)), (.int ((8 : Int32) / (4 : Int32)))])) _
    refine XS.imul X4.here hx rfl (hb hby d5_28) rfl ?_
    show Steps p.tables e below (T4.setTop (mkF m 29 #[.val (.ref a1), .val (.long q2), .second, .val (.int (8 : Int32))] [(.int (((8 : Int32) / (4 : Int32)) * (3 : Int32)))])) _
    refine XS.i2l X4.here hx rfl (hb hby d5_29) rfl ?_
    show Steps p.tables e below (T4.setTop (mkF m 30 #[.val (.ref a1), .val (.long q2), .second, .val (.int (8 : Int32))] [(.long ((((8 : Int32) / (4 : Int32)) * (3 : Int32)).toInt64))])) _
    refine XS.lloadN X4.here hx rfl (hb hby d5_30) rfl ?_
    show Steps p.tables e below (T4.setTop (mkF m 31 #[.val (.ref a1), .val (.long q2), .second, .val (.int (8 : Int32))] [(.long q2), (.long ((((8 : Int32) / (4 : Int32)) * (3 : Int32)).toInt64))])) _
    refine XS.lcmp X4.here hx rfl (hb hby d5_31) rfl ?_
    show Steps p.tables e below (T4.setTop (mkF m 32 #[.val (.ref a1), .val (.long q2), .second, .val (.int (8 : Int32))] [(.int (lcmpW ((((8 : Int32) / (4 : Int32)) * (3 : Int32)).toInt64) q2))])) _
    refine XS.ifNo X4.here hx rfl (hb hby d5_32) rfl ((if0 _ _).trans (tlt hc32).2.1) ?_
    show Steps p.tables e below (T4.setTop (mkF m 35 #[.val (.ref a1), .val (.long q2), .second, .val (.int (8 : Int32))] [])) _
    refine XS.iloadN X4.here hx rfl (hb hby d5_35) rfl ?_
    show Steps p.tables e below (T4.setTop (mkF m 36 #[.val (.ref a1), .val (.long q2), .second, .val (.int (8 : Int32))] [(.int (8 : Int32))])) _
    refine XS.iconst X4.here hx rfl (hb hby d5_36) ?_
    show Steps p.tables e below (T4.setTop (mkF m 37 #[.val (.ref a1), .val (.long q2), .second, .val (.int (8 : Int32))] [(.int (2 : Int32)), (.int (8 : Int32))])) _
    refine XS.imul X4.here hx rfl (hb hby d5_37) rfl ?_
    show Steps p.tables e below (T4.setTop (mkF m 38 #[.val (.ref a1), .val (.long q2), .second, .val (.int (8 : Int32))] [(.int ((8 : Int32) * (2 : Int32)))])) _
    refine XS.istoreN X4.here hx rfl (hb hby d5_38) rfl (l' := #[.val (.ref a1), .val (.long q2), .second, .val (.int ((8 : Int32) * (2 : Int32)))]) rfl ?_
    show Steps p.tables e below (T4.setTop (mkF m 39 #[.val (.ref a1), .val (.long q2), .second, .val (.int ((8 : Int32) * (2 : Int32)))] [])) _
    refine XS.goto X4.here hx rfl (pc0 := 39) (pc' := 24) rfl (hb hby d5_39) (by decide) (by decide) ?_
    show Steps p.tables e below (T4.setTop (mkF m 24 #[.val (.ref a1), .val (.long q2), .second, .val (.int ((8 : Int32) * (2 : Int32)))] [])) _
    refine XS.iloadN X4.here hx rfl (hb hby d5_24) rfl ?_
    show Steps p.tables e below (T4.setTop (mkF m 25 #[.val (.ref a1), .val (.long q2), .second, .val (.int ((8 : Int32) * (2 : Int32)))] [(.int ((8 : Int32) * (2 : Int32)))])) _
    refine XS.iconst X4.here hx rfl (hb hby d5_25) ?_
    show Steps p.tables e below (T4.setTop (mkF m 26 #[.val (.ref a1), .val (.long q2), .second, .val (.int ((8 : Int32) * (2 : Int32)))] [(.int (4 : Int32)), (.int ((8 : Int32) * (2 : Int32)))])) _
    refine XS.idiv X4.here hx rfl (hb hby d5_26) rfl hnz26_25 ?_
    show Steps p.tables e below (T4.setTop (mkF m 27 #[.val (.ref a1), .val (.long q2), .second, .val (.int ((8 : Int32) * (2 : Int32)))] [(.int (((8 : Int32) * (2 : Int32)) / (4 : Int32)))])) _
    refine XS.iconst X4.here hx rfl (hb hby d5_27) ?_
    show Steps p.tables e below (T4.setTop (mkF m 28 #[.val (.ref a1), .val (.long q2), .second, .val (.int ((8 : Int32) * (2 : Int32)))] [(.int (3 : Int32)), (.int (((8 : Int32) * (2 : Int32)) / (4 : Int32)))])) _
    refine XS.imul X4.here hx rfl (hb hby d5_28) rfl ?_
    show Steps p.tables e below (T4.setTop (mkF m 29 #[.val (.ref a1), .val (.long q2), .second, .val (.int ((8 : Int32) * (2 : Int32)))] [(.int ((((8 : Int32) * (2 : Int32)) / (4 : Int32)) * (3 : Int32)))])) _
    refine XS.i2l X4.here hx rfl (hb hby d5_29) rfl ?_
    show Steps p.tables e below (T4.setTop (mkF m 30 #[.val (.ref a1), .val (.long q2), .second, .val (.int ((8 : Int32) * (2 : Int32)))] [(.long (((((8 : Int32) * (2 : Int32)) / (4 : Int32)) * (3 : Int32)).toInt64))])) _
    refine XS.lloadN X4.here hx rfl (hb hby d5_30) rfl ?_
    show Steps p.tables e below (T4.setTop (mkF m 31 #[.val (.ref a1), .val (.long q2), .second, .val (.int ((8 : Int32) * (2 : Int32)))] [(.long q2), (.long (((((8 : Int32) * (2 : Int32)) / (4 : Int32)) * (3 : Int32)).toInt64))])) _
    refine XS.lcmp X4.here hx rfl (hb hby d5_31) rfl ?_
    show Steps p.tables e below (T4.setTop (mkF m 32 #[.val (.ref a1), .val (.long q2), .second, .val (.int ((8 : Int32) * (2 : Int32)))] [(.int (lcmpW (((((8 : Int32) * (2 : Int32)) / (4 : Int32)) * (3 : Int32)).toInt64) q2))])) _
    refine XS.ifNo X4.here hx rfl (hb hby d5_32) rfl ((if0 _ _).trans (tlt hc32_31).2.1) ?_
    show Steps p.tables e below (T4.setTop (mkF m 35 #[.val (.ref a1), .val (.long q2), .second, .val (.int ((8 : Int32) * (2 : Int32)))] [])) _
    refine XS.iloadN X4.here hx rfl (hb hby d5_35) rfl ?_
    show Steps p.tables e below (T4.setTop (mkF m 36 #[.val (.ref a1), .val (.long q2), .second, .val (.int ((8 : Int32) * (2 : Int32)))] [(.int ((8 : Int32) * (2 : Int32)))])) _
    refine XS.iconst X4.here hx rfl (hb hby d5_36) ?_
    show Steps p.tables e below (T4.setTop (mkF m 37 #[.val (.ref a1), .val (.long q2), .second, .val (.int ((8 : Int32) * (2 : Int32)))] [(.int (2 : Int32)), (.int ((8 : Int32) * (2 : Int32)))])) _
    refine XS.imul X4.here hx rfl (hb hby d5_37) rfl ?_
    show Steps p.tables e below (T4.setTop (mkF m 38 #[.val (.ref a1), .val (.long q2), .second, .val (.int ((8 : Int32) * (2 : Int32)))] [(.int (((8 : Int32) * (2 : Int32)) * (2 : Int32)))])) _
    refine XS.istoreN X4.here hx rfl (hb hby d5_38) rfl (l' := #[.val (.ref a1), .val (.long q2), .second, .val (.int (((8 : Int32) * (2 : Int32)) * (2 : Int32)))]) rfl ?_
    show Steps p.tables e below (T4.setTop (mkF m 39 #[.val (.ref a1), .val (.long q2), .second, .val (.int (((8 : Int32) * (2 : Int32)) * (2 : Int32)))] [])) _
    refine XS.goto X4.here hx rfl (pc0 := 39) (pc' := 24) rfl (hb hby d5_39) (by decide) (by decide) ?_
    show Steps p.tables e below (T4.setTop (mkF m 24 #[.val (.ref a1), .val (.long q2), .second, .val (.int (((8 : Int32) * (2 : Int32)) * (2 : Int32)))] [])) _
    refine XS.iloadN X4.here hx rfl (hb hby d5_24) rfl ?_
    show Steps p.tables e below (T4.setTop (mkF m 25 #[.val (.ref a1), .val (.long q2), .second, .val (.int (((8 : Int32) * (2 : Int32)) * (2 : Int32)))] [(.int (((8 : Int32) * (2 : Int32)) * (2 : Int32)))])) _
    refine XS.iconst X4.here hx rfl (hb hby d5_25) ?_
    show Steps p.tables e below (T4.setTop (mkF m 26 #[.val (.ref a1), .val (.long q2), .second, .val (.int (((8 : Int32) * (2 : Int32)) * (2 : Int32)))] [(.int (4 : Int32)), (.int (((8 : Int32) * (2 : Int32)) * (2 : Int32)))])) _
    refine XS.idiv X4.here hx rfl (hb hby d5_26) rfl hnz26_39 ?_
    show Steps p.tables e below (T4.setTop (mkF m 27 #[.val (.ref a1), .val (.long q2), .second, .val (.int (((8 : Int32) * (2 : Int32)) * (2 : Int32)))] [(.int ((((8 : Int32) * (2 : Int32)) * (2 : Int32)) / (4 : Int32)))])) _
    refine XS.iconst X4.here hx rfl (hb hby d5_27) ?_
    show Steps p.tables e below (T4.setTop (mkF m 28 #[.val (.ref a1), .val (.long q2), .second, .val (.int (((8 : Int32) * (2 : Int32)) * (2 : Int32)))] [(.int (3 : Int32)), (.int ((((8 : Int32) * (2 : Int32)) * (2 : Int32)) / (4 : Int32)))])) _
    refine XS.imul X4.here hx rfl (hb hby d5_28) rfl ?_
    show Steps p.tables e below (T4.setTop (mkF m 29 #[.val (.ref a1), .val (.long q2), .second, .val (.int (((8 : Int32) * (2 : Int32)) * (2 : Int32)))] [(.int (((((8 : Int32) * (2 : Int32)) * (2 : Int32)) / (4 : Int32)) * (3 : Int32)))])) _
    refine XS.i2l X4.here hx rfl (hb hby d5_29) rfl ?_
    show Steps p.tables e below (T4.setTop (mkF m 30 #[.val (.ref a1), .val (.long q2), .second, .val (.int (((8 : Int32) * (2 : Int32)) * (2 : Int32)))] [(.long ((((((8 : Int32) * (2 : Int32)) * (2 : Int32)) / (4 : Int32)) * (3 : Int32)).toInt64))])) _
    refine XS.lloadN X4.here hx rfl (hb hby d5_30) rfl ?_
    show Steps p.tables e below (T4.setTop (mkF m 31 #[.val (.ref a1), .val (.long q2), .second, .val (.int (((8 : Int32) * (2 : Int32)) * (2 : Int32)))] [(.long q2), (.long ((((((8 : Int32) * (2 : Int32)) * (2 : Int32)) / (4 : Int32)) * (3 : Int32)).toInt64))])) _
    refine XS.lcmp X4.here hx rfl (hb hby d5_31) rfl ?_
    show Steps p.tables e below (T4.setTop (mkF m 32 #[.val (.ref a1), .val (.long q2), .second, .val (.int (((8 : Int32) * (2 : Int32)) * (2 : Int32)))] [(.int (lcmpW ((((((8 : Int32) * (2 : Int32)) * (2 : Int32)) / (4 : Int32)) * (3 : Int32)).toInt64) q2))])) _
    refine XS.ifNo X4.here hx rfl (hb hby d5_32) rfl ((if0 _ _).trans (tlt hc32_45).2.1) ?_
    show Steps p.tables e below (T4.setTop (mkF m 35 #[.val (.ref a1), .val (.long q2), .second, .val (.int (((8 : Int32) * (2 : Int32)) * (2 : Int32)))] [])) _
    refine XS.iloadN X4.here hx rfl (hb hby d5_35) rfl ?_
    show Steps p.tables e below (T4.setTop (mkF m 36 #[.val (.ref a1), .val (.long q2), .second, .val (.int (((8 : Int32) * (2 : Int32)) * (2 : Int32)))] [(.int (((8 : Int32) * (2 : Int32)) * (2 : Int32)))])) _
    refine XS.iconst X4.here hx rfl (hb hby d5_36) ?_
    show Steps p.tables e below (T4.setTop (mkF m 37 #[.val (.ref a1), .val (.long q2), .second, .val (.int (((8 : Int32) * (2 : Int32)) * (2 : Int32)))] [(.int (2 : Int32)), (.int (((8 : Int32) * (2 : Int32)) * (2 : Int32)))])) _
    refine XS.imul X4.here hx rfl (hb hby d5_37) rfl ?_
    show Steps p.tables e below (T4.setTop (mkF m 38 #[.val (.ref a1), .val (.long q2), .second, .val (.int (((8 : Int32) * (2 : Int32)) * (2 : Int32)))] [(.int ((((8 : Int32) * (2 : Int32)) * (2 : Int32)) * (2 : Int32)))])) _
    refine XS.istoreN X4.here hx rfl (hb hby d5_38) rfl (l' := #[.val (.ref a1), .val (.long q2), .second, .val (.int ((((8 : Int32) * (2 : Int32)) * (2 : Int32)) * (2 : Int32)))]) rfl ?_
    show Steps p.tables e below (T4.setTop (mkF m 39 #[.val (.ref a1), .val (.long q2), .second, .val (.int ((((8 : Int32) * (2 : Int32)) * (2 : Int32)) * (2 : Int32)))] [])) _
    refine XS.goto X4.here hx rfl (pc0 := 39) (pc' := 24) rfl (hb hby d5_39) (by decide) (by decide) ?_
    show Steps p.tables e below (T4.setTop (mkF m 24 #[.val (.ref a1), .val (.long q2), .second, .val (.int ((((8 : Int32) * (2 : Int32)) * (2 : Int32)) * (2 : Int32)))] [])) _
    refine XS.iloadN X4.here hx rfl (hb hby d5_24) rfl ?_
    show Steps p.tables e below (T4.setTop (mkF m 25 #[.val (.ref a1), .val (.long q2), .second, .val (.int ((((8 : Int32) * (2 : Int32)) * (2 : Int32)) * (2 : Int32)))] [(.int ((((8 : Int32) * (2 : Int32)) * (2 : Int32)) * (2 : Int32)))])) _
    refine XS.iconst X4.here hx rfl (hb hby d5_25) ?_
    show Steps p.tables e below (T4.setTop (mkF m 26 #[.val (.ref a1), .val (.long q2), .second, .val (.int ((((8 : Int32) * (2 : Int32)) * (2 : Int32)) * (2 : Int32)))] [(.int (4 : Int32)), (.int ((((8 : Int32) * (2 : Int32)) * (2 : Int32)) * (2 : Int32)))])) _
    refine XS.idiv X4.here hx rfl (hb hby d5_26) rfl hnz26_53 ?_
    show Steps p.tables e below (T4.setTop (mkF m 27 #[.val (.ref a1), .val (.long q2), .second, .val (.int ((((8 : Int32) * (2 : Int32)) * (2 : Int32)) * (2 : Int32)))] [(.int (((((8 : Int32) * (2 : Int32)) * (2 : Int32)) * (2 : Int32)) / (4 : Int32)))])) _
    refine XS.iconst X4.here hx rfl (hb hby d5_27) ?_
    show Steps p.tables e below (T4.setTop (mkF m 28 #[.val (.ref a1), .val (.long q2), .second, .val (.int ((((8 : Int32) * (2 : Int32)) * (2 : Int32)) * (2 : Int32)))] [(.int (3 : Int32)), (.int (((((8 : Int32) * (2 : Int32)) * (2 : Int32)) * (2 : Int32)) / (4 : Int32)))])) _
    refine XS.imul X4.here hx rfl (hb hby d5_28) rfl ?_
    show Steps p.tables e below (T4.setTop (mkF m 29 #[.val (.ref a1), .val (.long q2), .second, .val (.int ((((8 : Int32) * (2 : Int32)) * (2 : Int32)) * (2 : Int32)))] [(.int ((((((8 : Int32) * (2 : Int32)) * (2 : Int32)) * (2 : Int32)) / (4 : Int32)) * (3 : Int32)))])) _
    refine XS.i2l X4.here hx rfl (hb hby d5_29) rfl ?_
    show Steps p.tables e below (T4.setTop (mkF m 30 #[.val (.ref a1), .val (.long q2), .second, .val (.int ((((8 : Int32) * (2 : Int32)) * (2 : Int32)) * (2 : Int32)))] [(.long (((((((8 : Int32) * (2 : Int32)) * (2 : Int32)) * (2 : Int32)) / (4 : Int32)) * (3 : Int32)).toInt64))])) _
    refine XS.lloadN X4.here hx rfl (hb hby d5_30) rfl ?_
    show Steps p.tables e below (T4.setTop (mkF m 31 #[.val (.ref a1), .val (.long q2), .second, .val (.int ((((8 : Int32) * (2 : Int32)) * (2 : Int32)) * (2 : Int32)))] [(.long q2), (.long (((((((8 : Int32) * (2 : Int32)) * (2 : Int32)) * (2 : Int32)) / (4 : Int32)) * (3 : Int32)).toInt64))])) _
    refine XS.lcmp X4.here hx rfl (hb hby d5_31) rfl ?_
    show Steps p.tables e below (T4.setTop (mkF m 32 #[.val (.ref a1), .val (.long q2), .second, .val (.int ((((8 : Int32) * (2 : Int32)) * (2 : Int32)) * (2 : Int32)))] [(.int (lcmpW (((((((8 : Int32) * (2 : Int32)) * (2 : Int32)) * (2 : Int32)) / (4 : Int32)) * (3 : Int32)).toInt64) q2))])) _
    refine XS.ifNo X4.here hx rfl (hb hby d5_32) rfl ((if0 _ _).trans (tlt hc32_59).2.1) ?_
    show Steps p.tables e below (T4.setTop (mkF m 35 #[.val (.ref a1), .val (.long q2), .second, .val (.int ((((8 : Int32) * (2 : Int32)) * (2 : Int32)) * (2 : Int32)))] [])) _
    refine XS.iloadN X4.here hx rfl (hb hby d5_35) rfl ?_
    show Steps p.tables e below (T4.setTop (mkF m 36 #[.val (.ref a1), .val (.long q2), .second, .val (.int ((((8 : Int32) * (2 : Int32)) * (2 : Int32)) * (2 : Int32)))] [(.int ((((8 : Int32) * (2 : Int32)) * (2 : Int32)) * (2 : Int32)))])) _
    refine XS.iconst X4.here hx rfl (hb hby d5_36) ?_
    show Steps p.tables e below (T4.setTop (mkF m 37 #[.val (.ref a1), .val (.long q2), .second, .val (.int ((((8 : Int32) * (2 : Int32)) * (2 : Int32)) * (2 : Int32)))] [(.int (2 : Int32)), (.int ((((8 : Int32) * (2 : Int32)) * (2 : Int32)) * (2 : Int32)))])) _
    refine XS.imul X4.here hx rfl (hb hby d5_37) rfl ?_
    show Steps p.tables e below (T4.setTop (mkF m 38 #[.val (.ref a1), .val (.long q2), .second, .val (.int ((((8 : Int32) * (2 : Int32)) * (2 : Int32)) * (2 : Int32)))] [(.int (((((8 : Int32) * (2 : Int32)) * (2 : Int32)) * (2 : Int32)) * (2 : Int32)))])) _
    refine XS.istoreN X4.here hx rfl (hb hby d5_38) rfl (l' := #[.val (.ref a1), .val (.long q2), .second, .val (.int (((((8 : Int32) * (2 : Int32)) * (2 : Int32)) * (2 : Int32)) * (2 : Int32)))]) rfl ?_
    show Steps p.tables e below (T4.setTop (mkF m 39 #[.val (.ref a1), .val (.long q2), .second, .val (.int (((((8 : Int32) * (2 : Int32)) * (2 : Int32)) * (2 : Int32)) * (2 : Int32)))] [])) _
    refine XS.goto X4.here hx rfl (pc0 := 39) (pc' := 24) rfl (hb hby d5_39) (by decide) (by decide) ?_
    show Steps p.tables e below (T4.setTop (mkF m 24 #[.val (.ref a1), .val (.long q2), .second, .val (.int (((((8 : Int32) * (2 : Int32)) * (2 : Int32)) * (2 : Int32)) * (2 : Int32)))] [])) _
    refine XS.iloadN X4.here hx rfl (hb hby d5_24) rfl ?_
    show Steps p.tables e below (T4.setTop (mkF m 25 #[.val (.ref a1), .val (.long q2), .second, .val (.int (((((8 : Int32) * (2 : Int32)) * (2 : Int32)) * (2 : Int32)) * (2 : Int32)))] [(.int (((((8 : Int32) * (2 : Int32)) * (2 : Int32)) * (2 : Int32)) * (2 : Int32)))])) _
    refine XS.iconst X4.here hx rfl (hb hby d5_25) ?_
    show Steps p.tables e below (T4.setTop (mkF m 26 #[.val (.ref a1), .val (.long q2), .second, .val (.int (((((8 : Int32) * (2 : Int32)) * (2 : Int32)) * (2 : Int32)) * (2 : Int32)))] [(.int (4 : Int32)), (.int (((((8 : Int32) * (2 : Int32)) * (2 : Int32)) * (2 : Int32)) * (2 : Int32)))])) _
    refine XS.idiv X4.here hx rfl (hb hby d5_26) rfl hnz26_67 ?_
    show Steps p.tables e below (T4.setTop (mkF m 27 #[.val (.ref a1), .val (.long q2), .second, .val (.int (((((8 : Int32) * (2 : Int32)) * (2 : Int32)) * (2 : Int32)) * (2 : Int32)))] [(.int ((((((8 : Int32) * (2 : Int32)) * (2 : Int32)) * (2 : Int32)) * (2 : Int32)) / (4 : Int32)))])) _
    refine XS.iconst X4.here hx rfl (hb hby d5_27) ?_
    show Steps p.tables e below (T4.setTop (mkF m 28 #[.val (.ref a1), .val (.long q2), .second, .val (.int (((((8 : Int32) * (2 : Int32)) * (2 : Int32)) * (2 : Int32)) * (2 : Int32)))] [(.int (3 : Int32)), (.int ((((((8 : Int32) * (2 : Int32)) * (2 : Int32)) * (2 : Int32)) * (2 : Int32)) / (4 : Int32)))])) _
    refine XS.imul X4.here hx rfl (hb hby d5_28) rfl ?_
    show Steps p.tables e below (T4.setTop (mkF m 29 #[.val (.ref a1), .val (.long q2), .second, .val (.int (((((8 : Int32) * (2 : Int32)) * (2 : Int32)) * (2 : Int32)) * (2 : Int32)))] [(.int (((((((8 : Int32) * (2 : Int32)) * (2 : Int32)) * (2 : Int32)) * (2 : Int32)) / (4 : Int32)) * (3 : Int32)))])) _
    refine XS.i2l X4.here hx rfl (hb hby d5_29) rfl ?_
    show Steps p.tables e below (T4.setTop (mkF m 30 #[.val (.ref a1), .val (.long q2), .second, .val (.int (((((8 : Int32) * (2 : Int32)) * (2 : Int32)) * (2 : Int32)) * (2 : Int32)))] [(.long ((((((((8 : Int32) * (2 : Int32)) * (2 : Int32)) * (2 : Int32)) * (2 : Int32)) / (4 : Int32)) * (3 : Int32)).toInt64))])) _
    refine XS.lloadN X4.here hx rfl (hb hby d5_30) rfl ?_
    show Steps p.tables e below (T4.setTop (mkF m 31 #[.val (.ref a1), .val (.long q2), .second, .val (.int (((((8 : Int32) * (2 : Int32)) * (2 : Int32)) * (2 : Int32)) * (2 : Int32)))] [(.long q2), (.long ((((((((8 : Int32) * (2 : Int32)) * (2 : Int32)) * (2 : Int32)) * (2 : Int32)) / (4 : Int32)) * (3 : Int32)).toInt64))])) _
    refine XS.lcmp X4.here hx rfl (hb hby d5_31) rfl ?_
    show Steps p.tables e below (T4.setTop (mkF m 32 #[.val (.ref a1), .val (.long q2), .second, .val (.int (((((8 : Int32) * (2 : Int32)) * (2 : Int32)) * (2 : Int32)) * (2 : Int32)))] [(.int (lcmpW ((((((((8 : Int32) * (2 : Int32)) * (2 : Int32)) * (2 : Int32)) * (2 : Int32)) / (4 : Int32)) * (3 : Int32)).toInt64) q2))])) _
    refine XS.ifNo X4.here hx rfl (hb hby d5_32) rfl ((if0 _ _).trans (tlt hc32_73).2.1) ?_
    show Steps p.tables e below (T4.setTop (mkF m 35 #[.val (.ref a1), .val (.long q2), .second, .val (.int (((((8 : Int32) * (2 : Int32)) * (2 : Int32)) * (2 : Int32)) * (2 : Int32)))] [])) _
    refine XS.iloadN X4.here hx rfl (hb hby d5_35) rfl ?_
    show Steps p.tables e below (T4.setTop (mkF m 36 #[.val (.ref a1), .val (.long q2), .second, .val (.int (((((8 : Int32) * (2 : Int32)) * (2 : Int32)) * (2 : Int32)) * (2 : Int32)))] [(.int (((((8 : Int32) * (2 : Int32)) * (2 : Int32)) * (2 : Int32)) * (2 : Int32)))])) _
    refine XS.iconst X4.here hx rfl (hb hby d5_36) ?_
    show Steps p.tables e below (T4.setTop (mkF m 37 #[.val (.ref a1), .val (.long q2), .second, .val (.int (((((8 : Int32) * (2 : Int32)) * (2 : Int32)) * (2 : Int32)) * (2 : Int32)))] [(.int (2 : Int32)), (.int (((((8 : Int32) * (2 : Int32)) * (2 : Int32)) * (2 : Int32)) * (2 : Int32)))])) _
    refine XS.imul X4.here hx rfl (hb hby d5_37) rfl ?_
    show Steps p.tables e below (T4.setTop (mkF m 38 #[.val (.ref a1), .val (.long q2), .second, .val (.int (((((8 : Int32) * (2 : Int32)) * (2 : Int32)) * (2 : Int32)) * (2 : Int32)))] [(.int ((((((8 : Int32) * (2 : Int32)) * (2 : Int32)) * (2 : Int32)) * (2 : Int32)) * (2 : Int32)))])) _
    refine XS.istoreN X4.here hx rfl (hb hby d5_38) rfl (l' := #[.val (.ref a1), .val (.long q2), .second, .val (.int ((((((8 : Int32) * (2 : Int32)) * (2 : Int32)) * (2 : Int32)) * (2 : Int32)) * (2 : Int32)))]) rfl ?_
    show Steps p.tables e below (T4.setTop (mkF m 39 #[.val (.ref a1), .val (.long q2), .second, .val (.int ((((((8 : Int32) * (2 : Int32)) * (2 : Int32)) * (2 : Int32)) * (2 : Int32)) * (2 : Int32)))] [])) _
    refine XS.goto X4.here hx rfl (pc0 := 39) (pc' := 24) rfl (hb hby d5_39) (by decide) (by decide) ?_
    show Steps p.tables e below (T4.setTop (mkF m 24 #[.val (.ref a1), .val (.long q2), .second, .val (.int ((((((8 : Int32) * (2 : Int32)) * (2 : Int32)) * (2 : Int32)) * (2 : Int32)) * (2 : Int32)))] [])) _
    refine XS.iloadN X4.here hx rfl (hb hby d5_24) rfl ?_
    show Steps p.tables e below (T4.setTop (mkF m 25 #[.val (.ref a1), .val (.long q2), .second, .val (.int ((((((8 : Int32) * (2 : Int32)) * (2 : Int32)) * (2 : Int32)) * (2 : Int32)) * (2 : Int32)))] [(.int ((((((8 : Int32) * (2 : Int32)) * (2 : Int32)) * (2 : Int32)) * (2 : Int32)) * (2 : Int32)))])) _
    refine XS.iconst X4.here hx rfl (hb hby d5_25) ?_
    show Steps p.tables e below (T4.setTop (mkF m 26 #[.val (.ref a1), .val (.long q2), .second, .val (.int ((((((8 : Int32) * (2 : Int32)) * (2 : Int32)) * (2 : Int32)) * (2 : Int32)) * (2 : Int32)))] [(.int (4 : Int32)), (.int ((((((8 : Int32) * (2 : Int32)) * (2 : Int32)) * (2 : Int32)) * (2 : Int32)) * (2 : Int32)))])) _
    refine XS.idiv X4.here hx rfl (hb hby d5_26) rfl hnz26_81 ?_
    show Steps p.tables e below (T4.setTop (mkF m 27 #[.val (.ref a1), .val (.long q2), .second, .val (.int ((((((8 : Int32) * (2 : Int32)) * (2 : Int32)) * (2 : Int32)) * (2 : Int32)) * (2 : Int32)))] [(.int (((((((8 : Int32) * (2 : Int32)) * (2 : Int32)) * (2 : Int32)) * (2 : Int32)) * (2 : Int32)) / (4 : Int32)))])) _
    refine XS.iconst X4.here hx rfl (hb hby d5_27) ?_
    show Steps p.tables e below (T4.setTop (mkF m 28 #[.val (.ref a1), .val (.long q2), .second, .val (.int ((((((8 : Int32) * (2 : Int32)) * (2 : Int32)) * (2 : Int32)) * (2 : Int32)) * (2 : Int32)))] [(.int (3 : Int32)), (.int (((((((8 : Int32) * (2 : Int32)) * (2 : Int32)) * (2 : Int32)) * (2 : Int32)) * (2 : Int32)) / (4 : Int32)))])) _
    refine XS.imul X4.here hx rfl (hb hby d5_28) rfl ?_
    show Steps p.tables e below (T4.setTop (mkF m 29 #[.val (.ref a1), .val (.long q2), .second, .val (.int ((((((8 : Int32) * (2 : Int32)) * (2 : Int32)) * (2 : Int32)) * (2 : Int32)) * (2 : Int32)))] [(.int ((((((((8 : Int32) * (2 : Int32)) * (2 : Int32)) * (2 : Int32)) * (2 : Int32)) * (2 : Int32)) / (4 : Int32)) * (3 : Int32)))])) _
    refine XS.i2l X4.here hx rfl (hb hby d5_29) rfl ?_
    show Steps p.tables e below (T4.setTop (mkF m 30 #[.val (.ref a1), .val (.long q2), .second, .val (.int ((((((8 : Int32) * (2 : Int32)) * (2 : Int32)) * (2 : Int32)) * (2 : Int32)) * (2 : Int32)))] [(.long (((((((((8 : Int32) * (2 : Int32)) * (2 : Int32)) * (2 : Int32)) * (2 : Int32)) * (2 : Int32)) / (4 : Int32)) * (3 : Int32)).toInt64))])) _
    refine XS.lloadN X4.here hx rfl (hb hby d5_30) rfl ?_
    show Steps p.tables e below (T4.setTop (mkF m 31 #[.val (.ref a1), .val (.long q2), .second, .val (.int ((((((8 : Int32) * (2 : Int32)) * (2 : Int32)) * (2 : Int32)) * (2 : Int32)) * (2 : Int32)))] [(.long q2), (.long (((((((((8 : Int32) * (2 : Int32)) * (2 : Int32)) * (2 : Int32)) * (2 : Int32)) * (2 : Int32)) / (4 : Int32)) * (3 : Int32)).toInt64))])) _
    refine XS.lcmp X4.here hx rfl (hb hby d5_31) rfl ?_
    show Steps p.tables e below (T4.setTop (mkF m 32 #[.val (.ref a1), .val (.long q2), .second, .val (.int ((((((8 : Int32) * (2 : Int32)) * (2 : Int32)) * (2 : Int32)) * (2 : Int32)) * (2 : Int32)))] [(.int (lcmpW (((((((((8 : Int32) * (2 : Int32)) * (2 : Int32)) * (2 : Int32)) * (2 : Int32)) * (2 : Int32)) / (4 : Int32)) * (3 : Int32)).toInt64) q2))])) _
    refine XS.ifYes X4.here hx rfl (pc0 := 32) (pc' := 42) rfl (hb hby d5_32) rfl ((if0 _ _).trans (flt hc32_87).2.1) (by decide) (by decide) ?_
    show Steps p.tables e below (T4.setTop (mkF m 42 #[.val (.ref a1), .val (.long q2), .second, .val (.int ((((((8 : Int32) * (2 : Int32)) * (2 : Int32)) * (2 : Int32)) * (2 : Int32)) * (2 : Int32)))] [])) _
    refine XS.iloadN X4.here hx rfl (hb hby d5_42) rfl ?_
    show Steps p.tables e below (T4.setTop (mkF m 43 #[.val (.ref a1), .val (.long q2), .second, .val (.int ((((((8 : Int32) * (2 : Int32)) * (2 : Int32)) * (2 : Int32)) * (2 : Int32)) * (2 : Int32)))] [(.int ((((((8 : Int32) * (2 : Int32)) * (2 : Int32)) * (2 : Int32)) * (2 : Int32)) * (2 : Int32)))])) _
    refine XS.aloadN X4.here hx rfl (hb hby d5_43) rfl rfl ?_
    show Steps p.tables e below (T4.setTop (mkF m 44 #[.val (.ref a1), .val (.long q2), .second, .val (.int ((((((8 : Int32) * (2 : Int32)) * (2 : Int32)) * (2 : Int32)) * (2 : Int32)) * (2 : Int32)))] [(.ref a1), (.int ((((((8 : Int32) * (2 : Int32)) * (2 : Int32)) * (2 : Int32)) * (2 : Int32)) * (2 : Int32)))])) _
    refine st5 _ ?_
    show Steps p.tables e below (T5.setTop (mkF m 47 #[.val (.ref a1), .val (.long q2), .second, .val (.int ((((((8 : Int32) * (2 : Int32)) * (2 : Int32)) * (2 : Int32)) * (2 : Int32)) * (2 : Int32)))] [(.ref w3), (.int ((((((8 : Int32) * (2 : Int32)) * (2 : Int32)) * (2 : Int32)) * (2 : Int32)) * (2 : Int32)))])) _
    refine X5.arraylength hx (by rw [e5]; exact Ar_w3.1) (State.isArrayOf_alike hZ.alike Ar_w3.2.1) (g := (mkF m 47 #[.val (.ref a1), .val (.long q2), .second, .val (.int ((((((8 : Int32) * (2 : Int32)) * (2 : Int32)) * (2 : Int32)) * (2 : Int32)) * (2 : Int32)))] [(.ref w3), (.int ((((((8 : Int32) * (2 : Int32)) * (2 : Int32)) * (2 : Int32)) * (2 : Int32)) * (2 : Int32)))])) rfl rfl (hb hby d5_47) _ ?_
    rw [len_of S_w3 N_w3]
    show Steps p.tables e below (T5.setTop (mkF m 48 #[.val (.ref a1), .val (.long q2), .second, .val (.int ((((((8 : Int32) * (2 : Int32)) * (2 : Int32)) * (2 : Int32)) * (2 : Int32)) * (2 : Int32)))] [(.int (8 : Int32)), (.int ((((((8 : Int32) * (2 : Int32)) * (2 : Int32)) * (2 : Int32)) * (2 : Int32)) * (2 : Int32)))])) _
    refine XS.icmpNo X5.here hx rfl (hb hby d5_48) rfl (tlt hc48).2.2.2 ?_
    show Steps p.tables e below (T5.setTop (mkF m 51 #[.val (.ref a1), .val (.long q2), .second, .val (.int ((((((8 : Int32) * (2 : Int32)) * (2 : Int32)) * (2 : Int32)) * (2 : Int32)) * (2 : Int32)))] [])) _
    refine XS.aloadN X5.here hx rfl (hb hby d5_51) rfl rfl ?_
    show Steps p.tables e below (T5.setTop (mkF m 52 #[.val (.ref a1), .val (.long q2), .second, .val (.int ((((((8 : Int32) * (2 : Int32)) * (2 : Int32)) * (2 : Int32)) * (2 : Int32)) * (2 : Int32)))] [(.ref a1)])) _
    refine XS.iloadN X5.here hx rfl (hb hby d5_52) rfl ?_
    show Steps p.tables e below (T5.setTop (mkF m 53 #[.val (.ref a1), .val (.long q2), .second, .val (.int ((((((8 : Int32) * (2 : Int32)) * (2 : Int32)) * (2 : Int32)) * (2 : Int32)) * (2 : Int32)))] [(.int ((((((8 : Int32) * (2 : Int32)) * (2 : Int32)) * (2 : Int32)) * (2 : Int32)) * (2 : Int32))), (.ref a1)])) _
    refine st6.trans ?_
    show Steps p.tables e below (T6.setTop (mkF m 56 #[.val (.ref a1), .val (.long q2), .second, .val (.int ((((((8 : Int32) * (2 : Int32)) * (2 : Int32)) * (2 : Int32)) * (2 : Int32)) * (2 : Int32)))] [])) _
    exact X6.returnOut hx Bd.returns (hb hby d5_56) hr
  · show Q5 Z a1 zz h0 n0 _ T6.heap _
    exact ⟨rfl, N6, K6, Ec6, b6, k6b, Fh6, hz ▸ Vb6⟩
set_option maxRecDepth 65536 in
set_option maxHeartbeats 40000000 in
theorem rm5_6 (l : Launch) (Z : State) (a0 : Array Value) (hw : ∀ d ∈ tables_1, d.before a0 Z = true) (ws : List Jvm.Cond) (a1 : Addr) (q2 : Int64) (w3 : Addr) (cl_w3 : Cell) (kw : ClassId) (w9 : Addr) (u9 zz : Int32) (h0 : Heap) (n0 : Nat) (Z0 : n0 ≤ h0.size) (F_slotHashes_a1 : Fld Z h0 a1 "com/example/wheredb/wheredb/storage/MemorySet" "slotHashes" "[I" (.ref w3)) (Ar_w3 : Arr Z h0 w3 cl_w3 .int) (S_w3 : cl_w3.slots.size = (8 : Int32).toNatClampNeg) (N_w3 : ¬ (8 : Int32) < 0) (E_a1 : Exa Z h0 a1 "com/example/wheredb/wheredb/storage/MemorySet") (F_slotCells_a1 : Fld Z h0 a1 "com/example/wheredb/wheredb/storage/MemorySet" "slotCells" "[J" (.ref w9)) (F_slotShift_a1 : Fld Z h0 a1 "com/example/wheredb/wheredb/storage/MemorySet" "slotShift" "I" (.int u9)) (g_a1 : n0 ≤ a1) (V5 : Arv Z h0 w3 kw .int (8 : Int32) [] (.int (0 : Int32))) (hz : (((((((8 : Int32) * (2 : Int32)) * (2 : Int32)) * (2 : Int32)) * (2 : Int32)) * (2 : Int32)) * (2 : Int32)) = zz) (hc5 : ¬ ((0 : Int32) < (lcmpW q2 (805306368 : Int64)))) (hnz26 : ¬ ((4 : Int32) = (0 : Int32))) (hc32 : (lcmpW ((((8 : Int32) / (4 : Int32)) * (3 : Int32)).toInt64) q2) < (0 : Int32)) (hnz26_25 : ¬ ((4 : Int32) = (0 : Int32))) (hc32_31 : (lcmpW (((((8 : Int32) * (2 : Int32)) / (4 : Int32)) * (3 : Int32)).toInt64) q2) < (0 : Int32)) (hnz26_39 : ¬ ((4 : Int32) = (0 : Int32))) (hc32_45 : (lcmpW ((((((8 : Int32) * (2 : Int32)) * (2 : Int32)) / (4 : Int32)) * (3 : Int32)).toInt64) q2) < (0 : Int32)) (hnz26_53 : ¬ ((4 : Int32) = (0 : Int32))) (hc32_59 : (lcmpW (((((((8 : Int32) * (2 : Int32)) * (2 : Int32)) * (2 : Int32)) / (4 : Int32)) * (3 : Int32)).toInt64) q2) < (0 : Int32)) (hnz26_67 : ¬ ((4 : Int32) = (0 : Int32))) (hc32_73 : (lcmpW ((((((((8 : Int32) * (2 : Int32)) * (2 : Int32)) * (2 : Int32)) * (2 : Int32)) / (4 : Int32)) * (3 : Int32)).toInt64) q2) < (0 : Int32)) (hnz26_81 : ¬ ((4 : Int32) = (0 : Int32))) (hc32_87 : (lcmpW (((((((((8 : Int32) * (2 : Int32)) * (2 : Int32)) * (2 : Int32)) * (2 : Int32)) * (2 : Int32)) / (4 : Int32)) * (3 : Int32)).toInt64) q2) < (0 : Int32)) (hnz26_95 : ¬ ((4 : Int32) = (0 : Int32))) (hc32_101 : ¬ ((lcmpW ((((((((((8 : Int32) * (2 : Int32)) * (2 : Int32)) * (2 : Int32)) * (2 : Int32)) * (2 : Int32)) * (2 : Int32)) / (4 : Int32)) * (3 : Int32)).toInt64) q2) < (0 : Int32))) (hc48 : (8 : Int32) < (((((((8 : Int32) * (2 : Int32)) * (2 : Int32)) * (2 : Int32)) * (2 : Int32)) * (2 : Int32)) * (2 : Int32))) :
    MetFree l (⟨"com/example/wheredb/wheredb/storage/MemorySet", "reserve", "(J)V"⟩ : MethodName) (head1 (Jvm.Cond.code (⟨"com/example/wheredb/wheredb/storage/MemorySet", "reserve", "(J)V"⟩ : MethodName) prog_17_method_5_code 4 none :: ws) ({ frames := 2, cells := 2, slots := 2048, locals := 33 } : Room)) (fun a U => a = #[(.ref a1), (.long q2)] ∧ Z.Warmed39 U.vm ∧ U.heap = h0) (fun _ _ _ _ _ => True) (fun _ U o U' => ∃ v L, o = .returned v ∧ Q5 Z a1 zz h0 n0 v U'.heap L ∧ FrameEnd U o U' L ({ frames := 2, cells := 2, slots := 2048, locals := 33 } : Room).cells ({ frames := 2, cells := 2, slots := 2048, locals := 33 } : Room).slots) := by
  refine MetFree.of_bodySF (plainFor_of_name pn_5) hisR ?_
  intro p e s m args below meth c s₁ Bd hml0 hP hK
  obtain ⟨rfl, hZ, hh⟩ := hP
  have hx := Bd.exec
  have hby := Bd.bytes
  have hml : c.maxLocals = 4 := hml0
  have hown : s.vm.findClass "com/example/wheredb/wheredb/storage/MemorySet" = some m.cls := findClass_of_methodNamed Bd.named
  have hnm := (name_of_methodNamed Bd.named Bd.method).1
  have X0 : Stand p l e ({ frames := 2, cells := 2, slots := 2048, locals := 33 } : Room) s m #[(.ref a1), (.long q2)] below meth c s₁ [] 0 0 := Stand.of_body Bd
  have e0 : s₁.heap = h0 := by rw [← hh, Bd.state]; rfl
  have N0 := Fr.nil n0
  have pre0 : ∀ t, Steps p.tables e below (s₁.setTop (mkF m 0 #[.val (.ref a1), .val (.long q2), .second, .unset] [])) t → Steps p.tables e below (s₁.setTop (entryFrame m #[(.ref a1), (.long q2)] 4)) t := fun t k => castTop (ef_5 m a1 q2) k
  obtain ⟨T4, X4, e4, st4⟩ := getF X0 hx hZ hown (host := "") (Or.inl (hw _ (List.mem_of_getElem? (i := 17) rfl))) Via.refl e0 F_slotHashes_a1 (g := (mkF m 19 #[.val (.ref a1), .val (.long q2), .second, .unset] [(.ref a1)])) rfl rfl (hb hby d5_19)
  obtain ⟨T5, X5, e5, st5⟩ := getF X4 hx hZ hown (host := "") (Or.inl (hw _ (List.mem_of_getElem? (i := 17) rfl))) Via.refl e4 F_slotHashes_a1 (g := (mkF m 44 #[.val (.ref a1), .val (.long q2), .second, .val (.int (((((((8 : Int32) * (2 : Int32)) * (2 : Int32)) * (2 : Int32)) * (2 : Int32)) * (2 : Int32)) * (2 : Int32)))] [(.ref a1), (.int (((((((8 : Int32) * (2 : Int32)) * (2 : Int32)) * (2 : Int32)) * (2 : Int32)) * (2 : Int32)) * (2 : Int32)))])) rfl rfl (hb hby d5_44)
  obtain ⟨cq6, q6, q6'⟩ := E_a1.cell
  obtain ⟨_, _, ⟨T6, L6, k6, n6⟩, -, X6, ⟨Lc6, hQ6, l6, y6, z6⟩, st6⟩ := X5.privateBack hx (y := (⟨"com/example/wheredb/wheredb/storage/MemorySet", "growTable", "(I)V"⟩ : MethodName)) hown (mvT hZ (hw _ (List.mem_of_getElem? (i := 40) rfl))) (mvT hZ (hw _ (List.mem_of_getElem? (i := 41) rfl))) (own_sel (mvT hZ (hw _ (List.mem_of_getElem? (i := 1) rfl))) (Cond.privateMethod_at (mvP hZ (hw _ (List.mem_of_getElem? (i := 42) rfl)) (args := #[]))) (mvT hZ (hw _ (List.mem_of_getElem? (i := 41) rfl))) (by decide)) (Cond.privateMethod_at (mvP hZ (hw _ (List.mem_of_getElem? (i := 42) rfl)) (args := #[]))) (mvT hZ (hw _ (List.mem_of_getElem? (i := 43) rfl))) (by decide) (backOf (W := 0) (rm6 l Z a0 hw [] a1 (((((((8 : Int32) * (2 : Int32)) * (2 : Int32)) * (2 : Int32)) * (2 : Int32)) * (2 : Int32)) * (2 : Int32)) w3 w9 (.int u9) kw h0 n0 Z0 F_slotHashes_a1 F_slotCells_a1 E_a1 g_a1 F_slotShift_a1 V5 (by unfold Pw; decide)) hZ (hw _ (List.mem_of_getElem? (i := 43) rfl)) (hw _ (List.mem_of_getElem? (i := 2) rfl)) (by decide) (by decide)) (g := (mkF m 53 #[.val (.ref a1), .val (.long q2), .second, .val (.int (((((((8 : Int32) * (2 : Int32)) * (2 : Int32)) * (2 : Int32)) * (2 : Int32)) * (2 : Int32)) * (2 : Int32)))] [(.int (((((((8 : Int32) * (2 : Int32)) * (2 : Int32)) * (2 : Int32)) * (2 : Int32)) * (2 : Int32)) * (2 : Int32))), (.ref a1)])) rfl (by rw [hml]; rfl) (Steps.refl _) (a := a1) (by rw [e5]; exact q6) q6' (argsL := [(.int (((((((8 : Int32) * (2 : Int32)) * (2 : Int32)) * (2 : Int32)) * (2 : Int32)) * (2 : Int32)) * (2 : Int32)))]) (rest := []) (lenOf pd_5_4 rfl) rfl (by show 2 * 0 + _ ≤ _; exact Nat.le_of_eq rfl) (hb hby d5_53) (fun _ _ => ⟨rfl, e5, (by decide : 0 + 2 ≤ _), (by decide : 0 + 2048 ≤ _)⟩)
  dsimp only [Pt.U, Pt.locs, Pt.cells, Pt.slots] at X6 l6 y6 z6 st6 hQ6
  subst l6 y6 z6
  obtain ⟨rfl, N6q, Kc6, Ec6, b6, k6b, Fh6, Vb6⟩ := hQ6
  have N6 := Fr.app N0 N6q
  have K6 : Keep h0 T6.heap [a1] := (Keep.refl h0 [a1]).trans Kc6 (allS (Or.inl (List.mem_of_getElem? (i := 0) rfl)) all0)
  obtain ⟨fs, hr, hrun, hended, hW, hsame⟩ := X6.leave (v := none) (fun _ => rfl)
  refine ⟨_, _, pre0 _ ?_, hrun, hended, _, _, rfl, ?_, ⟨_, rfl⟩, hW, hsame.mono (by decide) (by decide)⟩
  · show Steps p.tables e below (s₁.setTop (mkF m 0 #[.val (.ref a1), .val (.long q2), .second, .unset] [])) _
    refine XS.lloadN X0.here hx rfl (hb hby d5_0) rfl ?_
    show Steps p.tables e below (s₁.setTop (mkF m 1 #[.val (.ref a1), .val (.long q2), .second, .unset] [(.long q2)])) _
    refine X0.ldc2Long hx hown (mvT hZ (hw _ (List.mem_of_getElem? (i := 39) rfl))) (g := (mkF m 1 #[.val (.ref a1), .val (.long q2), .second, .unset] [(.long q2)])) rfl (hb hby d5_1) _ ?_
    show Steps p.tables e below (s₁.setTop (mkF m 4 #[.val (.ref a1), .val (.long q2), .second, .unset] [(.long (805306368 : Int64)), (.long q2)])) _
    refine XS.lcmp X0.here hx rfl (hb hby d5_4) rfl ?_
    show Steps p.tables e below (s₁.setTop (mkF m 5 #[.val (.ref a1), .val (.long q2), .second, .unset] [(.int (lcmpW q2 (805306368 : Int64)))])) _
    refine XS.ifYes X0.here hx rfl (pc0 := 5) (pc' := 18) rfl (hb hby d5_5) rfl ((if0 _ _).trans (flt hc5).2.2.2) (by decide) (by decide) ?_
    show Steps p.tables e below (s₁.setTop (mkF m 18 #[.val (.ref a1), .val (.long q2), .second, .unset] [])) _
    refine XS.aloadN X0.here hx rfl (hb hby d5_18) rfl rfl ?_
    show Steps p.tables e below (s₁.setTop (mkF m 19 #[.val (.ref a1), .val (.long q2), .second, .unset] [(.ref a1)])) _
    refine st4 _ ?_
    show Steps p.tables e below (T4.setTop (mkF m 22 #[.val (.ref a1), .val (.long q2), .second, .unset] [(.ref w3)])) _
    refine X4.arraylength hx (by rw [e4]; exact Ar_w3.1) (State.isArrayOf_alike hZ.alike Ar_w3.2.1) (g := (mkF m 22 #[.val (.ref a1), .val (.long q2), .second, .unset] [(.ref w3)])) rfl rfl (hb hby d5_22) _ ?_
    rw [len_of S_w3 N_w3]
    show Steps p.tables e below (T4.setTop (mkF m 23 #[.val (.ref a1), .val (.long q2), .second, .unset] [(.int (8 : Int32))])) _
    refine XS.istoreN X4.here hx rfl (hb hby d5_23) rfl (l' := #[.val (.ref a1), .val (.long q2), .second, .val (.int (8 : Int32))]) rfl ?_
    show Steps p.tables e below (T4.setTop (mkF m 24 #[.val (.ref a1), .val (.long q2), .second, .val (.int (8 : Int32))] [])) _
    refine XS.iloadN X4.here hx rfl (hb hby d5_24) rfl ?_
    show Steps p.tables e below (T4.setTop (mkF m 25 #[.val (.ref a1), .val (.long q2), .second, .val (.int (8 : Int32))] [(.int (8 : Int32))])) _
    refine XS.iconst X4.here hx rfl (hb hby d5_25) ?_
    show Steps p.tables e below (T4.setTop (mkF m 26 #[.val (.ref a1), .val (.long q2), .second, .val (.int (8 : Int32))] [(.int (4 : Int32)), (.int (8 : Int32))])) _
    refine XS.idiv X4.here hx rfl (hb hby d5_26) rfl hnz26 ?_
    show Steps p.tables e below (T4.setTop (mkF m 27 #[.val (.ref a1), .val (.long q2), .second, .val (.int (8 : Int32))] [(.int ((8 : Int32) / (4 : Int32)))])) _
    refine XS.iconst X4.here hx rfl (hb hby d5_27) ?_
    show Steps p.tables e below (T4.setTop (mkF m 28 #[.val (.ref a1), .val (.long q2), .second, .val (.int (8 : Int32))] [(.int (3 : Int32)), (.int ((8 : Int32) / (4 : Int32)))])) _
    refine XS.imul X4.here hx rfl (hb hby d5_28) rfl ?_
    show Steps p.tables e below (T4.setTop (mkF m 29 #[.val (.ref a1), .val (.long q2), .second, .val (.int (8 : Int32))] [(.int (((8 : Int32) / (4 : Int32)) * (3 : Int32)))])) _
    refine XS.i2l X4.here hx rfl (hb hby d5_29) rfl ?_
    show Steps p.tables e below (T4.setTop (mkF m 30 #[.val (.ref a1), .val (.long q2), .second, .val (.int (8 : Int32))] [(.long ((((8 : Int32) / (4 : Int32)) * (3 : Int32)).toInt64))])) _
    refine XS.lloadN X4.here hx rfl (hb hby d5_30) rfl ?_
    show Steps p.tables e below (T4.setTop (mkF m 31 #[.val (.ref a1), .val (.long q2), .second, .val (.int (8 : Int32))] [(.long q2), (.long ((((8 : Int32) / (4 : Int32)) * (3 : Int32)).toInt64))])) _
    refine XS.lcmp X4.here hx rfl (hb hby d5_31) rfl ?_
    show Steps p.tables e below (T4.setTop (mkF m 32 #[.val (.ref a1), .val (.long q2), .second, .val (.int (8 : Int32))] [(.int (lcmpW ((((8 : Int32) / (4 : Int32)) * (3 : Int32)).toInt64) q2))])) _
    refine XS.ifNo X4.here hx rfl (hb hby d5_32) rfl ((if0 _ _).trans (tlt hc32).2.1) ?_
    show Steps p.tables e below (T4.setTop (mkF m 35 #[.val (.ref a1), .val (.long q2), .second, .val (.int (8 : Int32))] [])) _
    refine XS.iloadN X4.here hx rfl (hb hby d5_35) rfl ?_
    show Steps p.tables e below (T4.setTop (mkF m 36 #[.val (.ref a1), .val (.long q2), .second, .val (.int (8 : Int32))] [(.int (8 : Int32))])) _
    refine XS.iconst X4.here hx rfl (hb hby d5_36) ?_
    show Steps p.tables e below (T4.setTop (mkF m 37 #[.val (.ref a1), .val (.long q2), .second, .val (.int (8 : Int32))] [(.int (2 : Int32)), (.int (8 : Int32))])) _
    refine XS.imul X4.here hx rfl (hb hby d5_37) rfl ?_
    show Steps p.tables e below (T4.setTop (mkF m 38 #[.val (.ref a1), .val (.long q2), .second, .val (.int (8 : Int32))] [(.int ((8 : Int32) * (2 : Int32)))])) _
    refine XS.istoreN X4.here hx rfl (hb hby d5_38) rfl (l' := #[.val (.ref a1), .val (.long q2), .second, .val (.int ((8 : Int32) * (2 : Int32)))]) rfl ?_
    show Steps p.tables e below (T4.setTop (mkF m 39 #[.val (.ref a1), .val (.long q2), .second, .val (.int ((8 : Int32) * (2 : Int32)))] [])) _
    refine XS.goto X4.here hx rfl (pc0 := 39) (pc' := 24) rfl (hb hby d5_39) (by decide) (by decide) ?_
    show Steps p.tables e below (T4.setTop (mkF m 24 #[.val (.ref a1), .val (.long q2), .second, .val (.int ((8 : Int32) * (2 : Int32)))] [])) _
    refine XS.iloadN X4.here hx rfl (hb hby d5_24) rfl ?_
    show Steps p.tables e below (T4.setTop (mkF m 25 #[.val (.ref a1), .val (.long q2), .second, .val (.int ((8 : Int32) * (2 : Int32)))] [(.int ((8 : Int32) * (2 : Int32)))])) _
    refine XS.iconst X4.here hx rfl (hb hby d5_25) ?_
    show Steps p.tables e below (T4.setTop (mkF m 26 #[.val (.ref a1), .val (.long q2), .second, .val (.int ((8 : Int32) * (2 : Int32)))] [(.int (4 : Int32)), (.int ((8 : Int32) * (2 : Int32)))])) _
    refine XS.idiv X4.here hx rfl (hb hby d5_26) rfl hnz26_25 ?_
    show Steps p.tables e below (T4.setTop (mkF m 27 #[.val (.ref a1), .val (.long q2), .second, .val (.int ((8 : Int32) * (2 : Int32)))] [(.int (((8 : Int32) * (2 : Int32)) / (4 : Int32)))])) _
    refine XS.iconst X4.here hx rfl (hb hby d5_27) ?_
    show Steps p.tables e below (T4.setTop (mkF m 28 #[.val (.ref a1), .val (.long q2), .second, .val (.int ((8 : Int32) * (2 : Int32)))] [(.int (3 : Int32)), (.int (((8 : Int32) * (2 : Int32)) / (4 : Int32)))])) _
    refine XS.imul X4.here hx rfl (hb hby d5_28) rfl ?_
    show Steps p.tables e below (T4.setTop (mkF m 29 #[.val (.ref a1), .val (.long q2), .second, .val (.int ((8 : Int32) * (2 : Int32)))] [(.int ((((8 : Int32) * (2 : Int32)) / (4 : Int32)) * (3 : Int32)))])) _
    refine XS.i2l X4.here hx rfl (hb hby d5_29) rfl ?_
    show Steps p.tables e below (T4.setTop (mkF m 30 #[.val (.ref a1), .val (.long q2), .second, .val (.int ((8 : Int32) * (2 : Int32)))] [(.long (((((8 : Int32) * (2 : Int32)) / (4 : Int32)) * (3 : Int32)).toInt64))])) _
    refine XS.lloadN X4.here hx rfl (hb hby d5_30) rfl ?_
    show Steps p.tables e below (T4.setTop (mkF m 31 #[.val (.ref a1), .val (.long q2), .second, .val (.int ((8 : Int32) * (2 : Int32)))] [(.long q2), (.long (((((8 : Int32) * (2 : Int32)) / (4 : Int32)) * (3 : Int32)).toInt64))])) _
    refine XS.lcmp X4.here hx rfl (hb hby d5_31) rfl ?_
    show Steps p.tables e below (T4.setTop (mkF m 32 #[.val (.ref a1), .val (.long q2), .second, .val (.int ((8 : Int32) * (2 : Int32)))] [(.int (lcmpW (((((8 : Int32) * (2 : Int32)) / (4 : Int32)) * (3 : Int32)).toInt64) q2))])) _
    refine XS.ifNo X4.here hx rfl (hb hby d5_32) rfl ((if0 _ _).trans (tlt hc32_31).2.1) ?_
    show Steps p.tables e below (T4.setTop (mkF m 35 #[.val (.ref a1), .val (.long q2), .second, .val (.int ((8 : Int32) * (2 : Int32)))] [])) _
    refine XS.iloadN X4.here hx rfl (hb hby d5_35) rfl ?_
    show Steps p.tables e below (T4.setTop (mkF m 36 #[.val (.ref a1), .val (.long q2), .second, .val (.int ((8 : Int32) * (2 : Int32)))] [(.int ((8 : Int32) * (2 : Int32)))])) _
    refine XS.iconst X4.here hx rfl (hb hby d5_36) ?_
    show Steps p.tables e below (T4.setTop (mkF m 37 #[.val (.ref a1), .val (.long q2), .second, .val (.int ((8 : Int32) * (2 : Int32)))] [(.int (2 : Int32)), (.int ((8 : Int32) * (2 : Int32)))])) _
    refine XS.imul X4.here hx rfl (hb hby d5_37) rfl ?_
    show Steps p.tables e below (T4.setTop (mkF m 38 #[.val (.ref a1), .val (.long q2), .second, .val (.int ((8 : Int32) * (2 : Int32)))] [(.int (((8 : Int32) * (2 : Int32)) * (2 : Int32)))])) _
    refine XS.istoreN X4.here hx rfl (hb hby d5_38) rfl (l' := #[.val (.ref a1), .val (.long q2), .second, .val (.int (((8 : Int32) * (2 : Int32)) * (2 : Int32)))]) rfl ?_
    show Steps p.tables e below (T4.setTop (mkF m 39 #[.val (.ref a1), .val (.long q2), .second, .val (.int (((8 : Int32) * (2 : Int32)) * (2 : Int32)))] [])) _
    refine XS.goto X4.here hx rfl (pc0 := 39) (pc' := 24) rfl (hb hby d5_39) (by decide) (by decide) ?_
    show Steps p.tables e below (T4.setTop (mkF m 24 #[.val (.ref a1), .val (.long q2), .second, .val (.int (((8 : Int32) * (2 : Int32)) * (2 : Int32)))] [])) _
    refine XS.iloadN X4.here hx rfl (hb hby d5_24) rfl ?_
    show Steps p.tables e below (T4.setTop (mkF m 25 #[.val (.ref a1), .val (.long q2), .second, .val (.int (((8 : Int32) * (2 : Int32)) * (2 : Int32)))] [(.int (((8 : Int32) * (2 : Int32)) * (2 : Int32)))])) _
    refine XS.iconst X4.here hx rfl (hb hby d5_25) ?_
    show Steps p.tables e below (T4.setTop (mkF m 26 #[.val (.ref a1), .val (.long q2), .second, .val (.int (((8 : Int32) * (2 : Int32)) * (2 : Int32)))] [(.int (4 : Int32)), (.int (((8 : Int32) * (2 : Int32)) * (2 : Int32)))])) _
    refine XS.idiv X4.here hx rfl (hb hby d5_26) rfl hnz26_39 ?_
    show Steps p.tables e below (T4.setTop (mkF m 27 #[.val (.ref a1), .val (.long q2), .second, .val (.int (((8 : Int32) * (2 : Int32)) * (2 : Int32)))] [(.int ((((8 : Int32) * (2 : Int32)) * (2 : Int32)) / (4 : Int32)))])) _
    refine XS.iconst X4.here hx rfl (hb hby d5_27) ?_
    show Steps p.tables e below (T4.setTop (mkF m 28 #[.val (.ref a1), .val (.long q2), .second, .val (.int (((8 : Int32) * (2 : Int32)) * (2 : Int32)))] [(.int (3 : Int32)), (.int ((((8 : Int32) * (2 : Int32)) * (2 : Int32)) / (4 : Int32)))])) _
    refine XS.imul X4.here hx rfl (hb hby d5_28) rfl ?_
    show Steps p.tables e below (T4.setTop (mkF m 29 #[.val (.ref a1), .val (.long q2), .second, .val (.int (((8 : Int32) * (2 : Int32)) * (2 : Int32)))] [(.int (((((8 : Int32) * (2 : Int32)) * (2 : Int32)) / (4 : Int32)) * (3 : Int32)))])) _
    refine XS.i2l X4.here hx rfl (hb hby d5_29) rfl ?_
    show Steps p.tables e below (T4.setTop (mkF m 30 #[.val (.ref a1), .val (.long q2), .second, .val (.int (((8 : Int32) * (2 : Int32)) * (2 : Int32)))] [(.long ((((((8 : Int32) * (2 : Int32)) * (2 : Int32)) / (4 : Int32)) * (3 : Int32)).toInt64))])) _
    refine XS.lloadN X4.here hx rfl (hb hby d5_30) rfl ?_
    show Steps p.tables e below (T4.setTop (mkF m 31 #[.val (.ref a1), .val (.long q2), .second, .val (.int (((8 : Int32) * (2 : Int32)) * (2 : Int32)))] [(.long q2), (.long ((((((8 : Int32) * (2 : Int32)) * (2 : Int32)) / (4 : Int32)) * (3 : Int32)).toInt64))])) _
    refine XS.lcmp X4.here hx rfl (hb hby d5_31) rfl ?_
    show Steps p.tables e below (T4.setTop (mkF m 32 #[.val (.ref a1), .val (.long q2), .second, .val (.int (((8 : Int32) * (2 : Int32)) * (2 : Int32)))] [(.int (lcmpW ((((((8 : Int32) * (2 : Int32)) * (2 : Int32)) / (4 : Int32)) * (3 : Int32)).toInt64) q2))])) _
    refine XS.ifNo X4.here hx rfl (hb hby d5_32) rfl ((if0 _ _).trans (tlt hc32_45).2.1) ?_
    show Steps p.tables e below (T4.setTop (mkF m 35 #[.val (.ref a1), .val (.long q2), .second, .val (.int (((8 : Int32) * (2 : Int32)) * (2 : Int32)))] [])) _
    refine XS.iloadN X4.here hx rfl (hb hby d5_35) rfl ?_
    show Steps p.tables e below (T4.setTop (mkF m 36 #[.val (.ref a1), .val (.long q2), .second, .val (.int (((8 : Int32) * (2 : Int32)) * (2 : Int32)))] [(.int (((8 : Int32) * (2 : Int32)) * (2 : Int32)))])) _
    refine XS.iconst X4.here hx rfl (hb hby d5_36) ?_
    show Steps p.tables e below (T4.setTop (mkF m 37 #[.val (.ref a1), .val (.long q2), .second, .val (.int (((8 : Int32) * (2 : Int32)) * (2 : Int32)))] [(.int (2 : Int32)), (.int (((8 : Int32) * (2 : Int32)) * (2 : Int32)))])) _
    refine XS.imul X4.here hx rfl (hb hby d5_37) rfl ?_
    show Steps p.tables e below (T4.setTop (mkF m 38 #[.val (.ref a1), .val (.long q2), .second, .val (.int (((8 : Int32) * (2 : Int32)) * (2 : Int32)))] [(.int ((((8 : Int32) * (2 : Int32)) * (2 : Int32)) * (2 : Int32)))])) _
    refine XS.istoreN X4.here hx rfl (hb hby d5_38) rfl (l' := #[.val (.ref a1), .val (.long q2), .second, .val (.int ((((8 : Int32) * (2 : Int32)) * (2 : Int32)) * (2 : Int32)))]) rfl ?_
    show Steps p.tables e below (T4.setTop (mkF m 39 #[.val (.ref a1), .val (.long q2), .second, .val (.int ((((8 : Int32) * (2 : Int32)) * (2 : Int32)) * (2 : Int32)))] [])) _
    refine XS.goto X4.here hx rfl (pc0 := 39) (pc' := 24) rfl (hb hby d5_39) (by decide) (by decide) ?_
    show Steps p.tables e below (T4.setTop (mkF m 24 #[.val (.ref a1), .val (.long q2), .second, .val (.int ((((8 : Int32) * (2 : Int32)) * (2 : Int32)) * (2 : Int32)))] [])) _
    refine XS.iloadN X4.here hx rfl (hb hby d5_24) rfl ?_
    show Steps p.tables e below (T4.setTop (mkF m 25 #[.val (.ref a1), .val (.long q2), .second, .val (.int ((((8 : Int32) * (2 : Int32)) * (2 : Int32)) * (2 : Int32)))] [(.int ((((8 : Int32) * (2 : Int32)) * (2 : Int32)) * (2 : Int32)))])) _
    refine XS.iconst X4.here hx rfl (hb hby d5_25) ?_
    show Steps p.tables e below (T4.setTop (mkF m 26 #[.val (.ref a1), .val (.long q2), .second, .val (.int ((((8 : Int32) * (2 : Int32)) * (2 : Int32)) * (2 : Int32)))] [(.int (4 : Int32)), (.int ((((8 : Int32) * (2 : Int32)) * (2 : Int32)) * (2 : Int32)))])) _
    refine XS.idiv X4.here hx rfl (hb hby d5_26) rfl hnz26_53 ?_
    show Steps p.tables e below (T4.setTop (mkF m 27 #[.val (.ref a1), .val (.long q2), .second, .val (.int ((((8 : Int32) * (2 : Int32)) * (2 : Int32)) * (2 : Int32)))] [(.int (((((8 : Int32) * (2 : Int32)) * (2 : Int32)) * (2 : Int32)) / (4 : Int32)))])) _
    refine XS.iconst X4.here hx rfl (hb hby d5_27) ?_
    show Steps p.tables e below (T4.setTop (mkF m 28 #[.val (.ref a1), .val (.long q2), .second, .val (.int ((((8 : Int32) * (2 : Int32)) * (2 : Int32)) * (2 : Int32)))] [(.int (3 : Int32)), (.int (((((8 : Int32) * (2 : Int32)) * (2 : Int32)) * (2 : Int32)) / (4 : Int32)))])) _
    refine XS.imul X4.here hx rfl (hb hby d5_28) rfl ?_
    show Steps p.tables e below (T4.setTop (mkF m 29 #[.val (.ref a1), .val (.long q2), .second, .val (.int ((((8 : Int32) * (2 : Int32)) * (2 : Int32)) * (2 : Int32)))] [(.int ((((((8 : Int32) * (2 : Int32)) * (2 : Int32)) * (2 : Int32)) / (4 : Int32)) * (3 : Int32)))])) _
    refine XS.i2l X4.here hx rfl (hb hby d5_29) rfl ?_
    show Steps p.tables e below (T4.setTop (mkF m 30 #[.val (.ref a1), .val (.long q2), .second, .val (.int ((((8 : Int32) * (2 : Int32)) * (2 : Int32)) * (2 : Int32)))] [(.long (((((((8 : Int32) * (2 : Int32)) * (2 : Int32)) * (2 : Int32)) / (4 : Int32)) * (3 : Int32)).toInt64))])) _
    refine XS.lloadN X4.here hx rfl (hb hby d5_30) rfl ?_
    show Steps p.tables e below (T4.setTop (mkF m 31 #[.val (.ref a1), .val (.long q2), .second, .val (.int ((((8 : Int32) * (2 : Int32)) * (2 : Int32)) * (2 : Int32)))] [(.long q2), (.long (((((((8 : Int32) * (2 : Int32)) * (2 : Int32)) * (2 : Int32)) / (4 : Int32)) * (3 : Int32)).toInt64))])) _
    refine XS.lcmp X4.here hx rfl (hb hby d5_31) rfl ?_
    show Steps p.tables e below (T4.setTop (mkF m 32 #[.val (.ref a1), .val (.long q2), .second, .val (.int ((((8 : Int32) * (2 : Int32)) * (2 : Int32)) * (2 : Int32)))] [(.int (lcmpW (((((((8 : Int32) * (2 : Int32)) * (2 : Int32)) * (2 : Int32)) / (4 : Int32)) * (3 : Int32)).toInt64) q2))])) _
    refine XS.ifNo X4.here hx rfl (hb hby d5_32) rfl ((if0 _ _).trans (tlt hc32_59).2.1) ?_
    show Steps p.tables e below (T4.setTop (mkF m 35 #[.val (.ref a1), .val (.long q2), .second, .val (.int ((((8 : Int32) * (2 : Int32)) * (2 : Int32)) * (2 : Int32)))] [])) _
    refine XS.iloadN X4.here hx rfl (hb hby d5_35) rfl ?_
    show Steps p.tables e below (T4.setTop (mkF m 36 #[.val (.ref a1), .val (.long q2), .second, .val (.int ((((8 : Int32) * (2 : Int32)) * (2 : Int32)) * (2 : Int32)))] [(.int ((((8 : Int32) * (2 : Int32)) * (2 : Int32)) * (2 : Int32)))])) _
    refine XS.iconst X4.here hx rfl (hb hby d5_36) ?_
    show Steps p.tables e below (T4.setTop (mkF m 37 #[.val (.ref a1), .val (.long q2), .second, .val (.int ((((8 : Int32) * (2 : Int32)) * (2 : Int32)) * (2 : Int32)))] [(.int (2 : Int32)), (.int ((((8 : Int32) * (2 : Int32)) * (2 : Int32)) * (2 : Int32)))])) _
    refine XS.imul X4.here hx rfl (hb hby d5_37) rfl ?_
    show Steps p.tables e below (T4.setTop (mkF m 38 #[.val (.ref a1), .val (.long q2), .second, .val (.int ((((8 : Int32) * (2 : Int32)) * (2 : Int32)) * (2 : Int32)))] [(.int (((((8 : Int32) * (2 : Int32)) * (2 : Int32)) * (2 : Int32)) * (2 : Int32)))])) _
    refine XS.istoreN X4.here hx rfl (hb hby d5_38) rfl (l' := #[.val (.ref a1), .val (.long q2), .second, .val (.int (((((8 : Int32) * (2 : Int32)) * (2 : Int32)) * (2 : Int32)) * (2 : Int32)))]) rfl ?_
    show Steps p.tables e below (T4.setTop (mkF m 39 #[.val (.ref a1), .val (.long q2), .second, .val (.int (((((8 : Int32) * (2 : Int32)) * (2 : Int32)) * (2 : Int32)) * (2 : Int32)))] [])) _
    refine XS.goto X4.here hx rfl (pc0 := 39) (pc' := 24) rfl (hb hby d5_39) (by decide) (by decide) ?_
    show Steps p.tables e below (T4.setTop (mkF m 24 #[.val (.ref a1), .val (.long q2), .second, .val (.int (((((8 : Int32) * (2 : Int32)) * (2 : Int32)) * (2 : Int32)) * (2 : Int32)))] [])) _
    refine XS.iloadN X4.here hx rfl (hb hby d5_24) rfl ?_
    show Steps p.tables e below (T4.setTop (mkF m 25 #[.val (.ref a1), .val (.long q2), .second, .val (.int (((((8 : Int32) * (2 : Int32)) * (2 : Int32)) * (2 : Int32)) * (2 : Int32)))] [(.int (((((8 : Int32) * (2 : Int32)) * (2 : Int32)) * (2 : Int32)) * (2 : Int32)))])) _
    refine XS.iconst X4.here hx rfl (hb hby d5_25) ?_
    show Steps p.tables e below (T4.setTop (mkF m 26 #[.val (.ref a1), .val (.long q2), .second, .val (.int (((((8 : Int32) * (2 : Int32)) * (2 : Int32)) * (2 : Int32)) * (2 : Int32)))] [(.int (4 : Int32)), (.int (((((8 : Int32) * (2 : Int32)) * (2 : Int32)) * (2 : Int32)) * (2 : Int32)))])) _
    refine XS.idiv X4.here hx rfl (hb hby d5_26) rfl hnz26_67 ?_
    show Steps p.tables e below (T4.setTop (mkF m 27 #[.val (.ref a1), .val (.long q2), .second, .val (.int (((((8 : Int32) * (2 : Int32)) * (2 : Int32)) * (2 : Int32)) * (2 : Int32)))] [(.int ((((((8 : Int32) * (2 : Int32)) * (2 : Int32)) * (2 : Int32)) * (2 : Int32)) / (4 : Int32)))])) _
    refine XS.iconst X4.here hx rfl (hb hby d5_27) ?_
    show Steps p.tables e below (T4.setTop (mkF m 28 #[.val (.ref a1), .val (.long q2), .second, .val (.int (((((8 : Int32) * (2 : Int32)) * (2 : Int32)) * (2 : Int32)) * (2 : Int32)))] [(.int (3 : Int32)), (.int ((((((8 : Int32) * (2 : Int32)) * (2 : Int32)) * (2 : Int32)) * (2 : Int32)) / (4 : Int32)))])) _
    refine XS.imul X4.here hx rfl (hb hby d5_28) rfl ?_
    show Steps p.tables e below (T4.setTop (mkF m 29 #[.val (.ref a1), .val (.long q2), .second, .val (.int (((((8 : Int32) * (2 : Int32)) * (2 : Int32)) * (2 : Int32)) * (2 : Int32)))] [(.int (((((((8 : Int32) * (2 : Int32)) * (2 : Int32)) * (2 : Int32)) * (2 : Int32)) / (4 : Int32)) * (3 : Int32)))])) _
    refine XS.i2l X4.here hx rfl (hb hby d5_29) rfl ?_
    show Steps p.tables e below (T4.setTop (mkF m 30 #[.val (.ref a1), .val (.long q2), .second, .val (.int (((((8 : Int32) * (2 : Int32)) * (2 : Int32)) * (2 : Int32)) * (2 : Int32)))] [(.long ((((((((8 : Int32) * (2 : Int32)) * (2 : Int32)) * (2 : Int32)) * (2 : Int32)) / (4 : Int32)) * (3 : Int32)).toInt64))])) _
    refine XS.lloadN X4.here hx rfl (hb hby d5_30) rfl ?_
    show Steps p.tables e below (T4.setTop (mkF m 31 #[.val (.ref a1), .val (.long q2), .second, .val (.int (((((8 : Int32) * (2 : Int32)) * (2 : Int32)) * (2 : Int32)) * (2 : Int32)))] [(.long q2), (.long ((((((((8 : Int32) * (2 : Int32)) * (2 : Int32)) * (2 : Int32)) * (2 : Int32)) / (4 : Int32)) * (3 : Int32)).toInt64))])) _
    refine XS.lcmp X4.here hx rfl (hb hby d5_31) rfl ?_
    show Steps p.tables e below (T4.setTop (mkF m 32 #[.val (.ref a1), .val (.long q2), .second, .val (.int (((((8 : Int32) * (2 : Int32)) * (2 : Int32)) * (2 : Int32)) * (2 : Int32)))] [(.int (lcmpW ((((((((8 : Int32) * (2 : Int32)) * (2 : Int32)) * (2 : Int32)) * (2 : Int32)) / (4 : Int32)) * (3 : Int32)).toInt64) q2))])) _
    refine XS.ifNo X4.here hx rfl (hb hby d5_32) rfl ((if0 _ _).trans (tlt hc32_73).2.1) ?_
    show Steps p.tables e below (T4.setTop (mkF m 35 #[.val (.ref a1), .val (.long q2), .second, .val (.int (((((8 : Int32) * (2 : Int32)) * (2 : Int32)) * (2 : Int32)) * (2 : Int32)))] [])) _
    refine XS.iloadN X4.here hx rfl (hb hby d5_35) rfl ?_
    show Steps p.tables e below (T4.setTop (mkF m 36 #[.val (.ref a1), .val (.long q2), .second, .val (.int (((((8 : Int32) * (2 : Int32)) * (2 : Int32)) * (2 : Int32)) * (2 : Int32)))] [(.int (((((8 : Int32) * (2 : Int32)) * (2 : Int32)) * (2 : Int32)) * (2 : Int32)))])) _
    refine XS.iconst X4.here hx rfl (hb hby d5_36) ?_
    show Steps p.tables e below (T4.setTop (mkF m 37 #[.val (.ref a1), .val (.long q2), .second, .val (.int (((((8 : Int32) * (2 : Int32)) * (2 : Int32)) * (2 : Int32)) * (2 : Int32)))] [(.int (2 : Int32)), (.int (((((8 : Int32) * (2 : Int32)) * (2 : Int32)) * (2 : Int32)) * (2 : Int32)))])) _
    refine XS.imul X4.here hx rfl (hb hby d5_37) rfl ?_
    show Steps p.tables e below (T4.setTop (mkF m 38 #[.val (.ref a1), .val (.long q2), .second, .val (.int (((((8 : Int32) * (2 : Int32)) * (2 : Int32)) * (2 : Int32)) * (2 : Int32)))] [(.int ((((((8 : Int32) * (2 : Int32)) * (2 : Int32)) * (2 : Int32)) * (2 : Int32)) * (2 : Int32)))])) _
    refine XS.istoreN X4.here hx rfl (hb hby d5_38) rfl (l' := #[.val (.ref a1), .val (.long q2), .second, .val (.int ((((((8 : Int32) * (2 : Int32)) * (2 : Int32)) * (2 : Int32)) * (2 : Int32)) * (2 : Int32)))]) rfl ?_
    show Steps p.tables e below (T4.setTop (mkF m 39 #[.val (.ref a1), .val (.long q2), .second, .val (.int ((((((8 : Int32) * (2 : Int32)) * (2 : Int32)) * (2 : Int32)) * (2 : Int32)) * (2 : Int32)))] [])) _
    refine XS.goto X4.here hx rfl (pc0 := 39) (pc' := 24) rfl (hb hby d5_39) (by decide) (by decide) ?_
    show Steps p.tables e below (T4.setTop (mkF m 24 #[.val (.ref a1), .val (.long q2), .second, .val (.int ((((((8 : Int32) * (2 : Int32)) * (2 : Int32)) * (2 : Int32)) * (2 : Int32)) * (2 : Int32)))] [])) _
    refine XS.iloadN X4.here hx rfl (hb hby d5_24) rfl ?_
    show Steps p.tables e below (T4.setTop (mkF m 25 #[.val (.ref a1), .val (.long q2), .second, .val (.int ((((((8 : Int32) * (2 : Int32)) * (2 : Int32)) * (2 : Int32)) * (2 : Int32)) * (2 : Int32)))] [(.int ((((((8 : Int32) * (2 : Int32)) * (2 : Int32)) * (2 : Int32)) * (2 : Int32)) * (2 : Int32)))])) _
    refine XS.iconst X4.here hx rfl (hb hby d5_25) ?_
    show Steps p.tables e below (T4.setTop (mkF m 26 #[.val (.ref a1), .val (.long q2), .second, .val (.int ((((((8 : Int32) * (2 : Int32)) * (2 : Int32)) * (2 : Int32)) * (2 : Int32)) * (2 : Int32)))] [(.int (4 : Int32)), (.int ((((((8 : Int32) * (2 : Int32)) * (2 : Int32)) * (2 : Int32)) * (2 : Int32)) * (2 : Int32)))])) _
    refine XS.idiv X4.here hx rfl (hb hby d5_26) rfl hnz26_81 ?_
    show Steps p.tables e below (T4.setTop (mkF m 27 #[.val (.ref a1), .val (.long q2), .second, .val (.int ((((((8 : Int32) * (2 : Int32)) * (2 : Int32)) * (2 : Int32)) * (2 : Int32)) * (2 : Int32)))] [(.int (((((((8 : Int32) * (2 : Int32)) * (2 : Int32)) * (2 : Int32)) * (2 : Int32)) * (2 : Int32)) / (4 : Int32)))])) _
    refine XS.iconst X4.here hx rfl (hb hby d5_27) ?_
    show Steps p.tables e below (T4.setTop (mkF m 28 #[.val (.ref a1), .val (.long q2), .second, .val (.int ((((((8 : Int32) * (2 : Int32)) * (2 : Int32)) * (2 : Int32)) * (2 : Int32)) * (2 : Int32)))] [(.int (3 : Int32)), (.int (((((((8 : Int32) * (2 : Int32)) * (2 : Int32)) * (2 : Int32)) * (2 : Int32)) * (2 : Int32)) / (4 : Int32)))])) _
    refine XS.imul X4.here hx rfl (hb hby d5_28) rfl ?_
    show Steps p.tables e below (T4.setTop (mkF m 29 #[.val (.ref a1), .val (.long q2), .second, .val (.int ((((((8 : Int32) * (2 : Int32)) * (2 : Int32)) * (2 : Int32)) * (2 : Int32)) * (2 : Int32)))] [(.int ((((((((8 : Int32) * (2 : Int32)) * (2 : Int32)) * (2 : Int32)) * (2 : Int32)) * (2 : Int32)) / (4 : Int32)) * (3 : Int32)))])) _
    refine XS.i2l X4.here hx rfl (hb hby d5_29) rfl ?_
    show Steps p.tables e below (T4.setTop (mkF m 30 #[.val (.ref a1), .val (.long q2), .second, .val (.int ((((((8 : Int32) * (2 : Int32)) * (2 : Int32)) * (2 : Int32)) * (2 : Int32)) * (2 : Int32)))] [(.long (((((((((8 : Int32) * (2 : Int32)) * (2 : Int32)) * (2 : Int32)) * (2 : Int32)) * (2 : Int32)) / (4 : Int32)) * (3 : Int32)).toInt64))])) _
    refine XS.lloadN X4.here hx rfl (hb hby d5_30) rfl ?_
    show Steps p.tables e below (T4.setTop (mkF m 31 #[.val (.ref a1), .val (.long q2), .second, .val (.int ((((((8 : Int32) * (2 : Int32)) * (2 : Int32)) * (2 : Int32)) * (2 : Int32)) * (2 : Int32)))] [(.long q2), (.long (((((((((8 : Int32) * (2 : Int32)) * (2 : Int32)) * (2 : Int32)) * (2 : Int32)) * (2 : Int32)) / (4 : Int32)) * (3 : Int32)).toInt64))])) _
    refine XS.lcmp X4.here hx rfl (hb hby d5_31) rfl ?_
    show Steps p.tables e below (T4.setTop (mkF m 32 #[.val (.ref a1), .val (.long q2), .second, .val (.int ((((((8 : Int32) * (2 : Int32)) * (2 : Int32)) * (2 : Int32)) * (2 : Int32)) * (2 : Int32)))] [(.int (lcmpW (((((((((8 : Int32) * (2 : Int32)) * (2 : Int32)) * (2 : Int32)) * (2 : Int32)) * (2 : Int32)) / (4 : Int32)) * (3 : Int32)).toInt64) q2))])) _
    refine XS.ifNo X4.here hx rfl (hb hby d5_32) rfl ((if0 _ _).trans (tlt hc32_87).2.1) ?_
    show Steps p.tables e below (T4.setTop (mkF m 35 #[.val (.ref a1), .val (.long q2), .second, .val (.int ((((((8 : Int32) * (2 : Int32)) * (2 : Int32)) * (2 : Int32)) * (2 : Int32)) * (2 : Int32)))] [])) _
    refine XS.iloadN X4.here hx rfl (hb hby d5_35) rfl ?_
    show Steps p.tables e below (T4.setTop (mkF m 36 #[.val (.ref a1), .val (.long q2), .second, .val (.int ((((((8 : Int32) * (2 : Int32)) * (2 : Int32)) * (2 : Int32)) * (2 : Int32)) * (2 : Int32)))] [(.int ((((((8 : Int32) * (2 : Int32)) * (2 : Int32)) * (2 : Int32)) * (2 : Int32)) * (2 : Int32)))])) _
    refine XS.iconst X4.here hx rfl (hb hby d5_36) ?_
    show Steps p.tables e below (T4.setTop (mkF m 37 #[.val (.ref a1), .val (.long q2), .second, .val (.int ((((((8 : Int32) * (2 : Int32)) * (2 : Int32)) * (2 : Int32)) * (2 : Int32)) * (2 : Int32)))] [(.int (2 : Int32)), (.int ((((((8 : Int32) * (2 : Int32)) * (2 : Int32)) * (2 : Int32)) * (2 : Int32)) * (2 : Int32)))])) _
    refine XS.imul X4.here hx rfl (hb hby d5_37) rfl ?_
    show Steps p.tables e below (T4.setTop (mkF m 38 #[.val (.ref a1), .val (.long q2), .second, .val (.int ((((((8 : Int32) * (2 : Int32)) * (2 : Int32)) * (2 : Int32)) * (2 : Int32)) * (2 : Int32)))] [(.int (((((((8 : Int32) * (2 : Int32)) * (2 : Int32)) * (2 : Int32)) * (2 : Int32)) * (2 : Int32)) * (2 : Int32)))])) _
    refine XS.istoreN X4.here hx rfl (hb hby d5_38) rfl (l' := #[.val (.ref a1), .val (.long q2), .second, .val (.int (((((((8 : Int32) * (2 : Int32)) * (2 : Int32)) * (2 : Int32)) * (2 : Int32)) * (2 : Int32)) * (2 : Int32)))]) rfl ?_
    show Steps p.tables e below (T4.setTop (mkF m 39 #[.val (.ref a1), .val (.long q2), .second, .val (.int (((((((8 : Int32) * (2 : Int32)) * (2 : Int32)) * (2 : Int32)) * (2 : Int32)) * (2 : Int32)) * (2 : Int32)))] [])) _
    refine XS.goto X4.here hx rfl (pc0 := 39) (pc' := 24) rfl (hb hby d5_39) (by decide) (by decide) ?_
    show Steps p.tables e below (T4.setTop (mkF m 24 #[.val (.ref a1), .val (.long q2), .second, .val (.int (((((((8 : Int32) * (2 : Int32)) * (2 : Int32)) * (2 : Int32)) * (2 : Int32)) * (2 : Int32)) * (2 : Int32)))] [])) _
    refine XS.iloadN X4.here hx rfl (hb hby d5_24) rfl ?_
    show Steps p.tables e below (T4.setTop (mkF m 25 #[.val (.ref a1), .val (.long q2), .second, .val (.int (((((((8 : Int32) * (2 : Int32)) * (2 : Int32)) * (2 : Int32)) * (2 : Int32)) * (2 : Int32)) * (2 : Int32)))] [(.int (((((((8 : Int32) * (2 : Int32)) * (2 : Int32)) * (2 : Int32)) * (2 : Int32)) * (2 : Int32)) * (2 : Int32)))])) _
    refine XS.iconst X4.here hx rfl (hb hby d5_25) ?_
    show Steps p.tables e below (T4.setTop (mkF m 26 #[.val (.ref a1), .val (.long q2), .second, .val (.int (((((((8 : Int32) * (2 : Int32)) * (2 : Int32)) * (2 : Int32)) * (2 : Int32)) * (2 : Int32)) * (2 : Int32)))] [(.int (4 : Int32)), (.int (((((((8 : Int32) * (2 : Int32)) * (2 : Int32)) * (2 : Int32)) * (2 : Int32)) * (2 : Int32)) * (2 : Int32)))])) _
    refine XS.idiv X4.here hx rfl (hb hby d5_26) rfl hnz26_95 ?_
    show Steps p.tables e below (T4.setTop (mkF m 27 #[.val (.ref a1), .val (.long q2), .second, .val (.int (((((((8 : Int32) * (2 : Int32)) * (2 : Int32)) * (2 : Int32)) * (2 : Int32)) * (2 : Int32)) * (2 : Int32)))] [(.int ((((((((8 : Int32) * (2 : Int32)) * (2 : Int32)) * (2 : Int32)) * (2 : Int32)) * (2 : Int32)) * (2 : Int32)) / (4 : Int32)))])) _
    refine XS.iconst X4.here hx rfl (hb hby d5_27) ?_
    show Steps p.tables e below (T4.setTop (mkF m 28 #[.val (.ref a1), .val (.long q2), .second, .val (.int (((((((8 : Int32) * (2 : Int32)) * (2 : Int32)) * (2 : Int32)) * (2 : Int32)) * (2 : Int32)) * (2 : Int32)))] [(.int (3 : Int32)), (.int ((((((((8 : Int32) * (2 : Int32)) * (2 : Int32)) * (2 : Int32)) * (2 : Int32)) * (2 : Int32)) * (2 : Int32)) / (4 : Int32)))])) _
    refine XS.imul X4.here hx rfl (hb hby d5_28) rfl ?_
    show Steps p.tables e below (T4.setTop (mkF m 29 #[.val (.ref a1), .val (.long q2), .second, .val (.int (((((((8 : Int32) * (2 : Int32)) * (2 : Int32)) * (2 : Int32)) * (2 : Int32)) * (2 : Int32)) * (2 : Int32)))] [(.int (((((((((8 : Int32) * (2 : Int32)) * (2 : Int32)) * (2 : Int32)) * (2 : Int32)) * (2 : Int32)) * (2 : Int32)) / (4 : Int32)) * (3 : Int32)))])) _
    refine XS.i2l X4.here hx rfl (hb hby d5_29) rfl ?_
    show Steps p.tables e below (T4.setTop (mkF m 30 #[.val (.ref a1), .val (.long q2), .second, .val (.int (((((((8 : Int32) * (2 : Int32)) * (2 : Int32)) * (2 : Int32)) * (2 : Int32)) * (2 : Int32)) * (2 : Int32)))] [(.long ((((((((((8 : Int32) * (2 : Int32)) * (2 : Int32)) * (2 : Int32)) * (2 : Int32)) * (2 : Int32)) * (2 : Int32)) / (4 : Int32)) * (3 : Int32)).toInt64))])) _
    refine XS.lloadN X4.here hx rfl (hb hby d5_30) rfl ?_
    show Steps p.tables e below (T4.setTop (mkF m 31 #[.val (.ref a1), .val (.long q2), .second, .val (.int (((((((8 : Int32) * (2 : Int32)) * (2 : Int32)) * (2 : Int32)) * (2 : Int32)) * (2 : Int32)) * (2 : Int32)))] [(.long q2), (.long ((((((((((8 : Int32) * (2 : Int32)) * (2 : Int32)) * (2 : Int32)) * (2 : Int32)) * (2 : Int32)) * (2 : Int32)) / (4 : Int32)) * (3 : Int32)).toInt64))])) _
    refine XS.lcmp X4.here hx rfl (hb hby d5_31) rfl ?_
    show Steps p.tables e below (T4.setTop (mkF m 32 #[.val (.ref a1), .val (.long q2), .second, .val (.int (((((((8 : Int32) * (2 : Int32)) * (2 : Int32)) * (2 : Int32)) * (2 : Int32)) * (2 : Int32)) * (2 : Int32)))] [(.int (lcmpW ((((((((((8 : Int32) * (2 : Int32)) * (2 : Int32)) * (2 : Int32)) * (2 : Int32)) * (2 : Int32)) * (2 : Int32)) / (4 : Int32)) * (3 : Int32)).toInt64) q2))])) _
    refine XS.ifYes X4.here hx rfl (pc0 := 32) (pc' := 42) rfl (hb hby d5_32) rfl ((if0 _ _).trans (flt hc32_101).2.1) (by decide) (by decide) ?_
    show Steps p.tables e below (T4.setTop (mkF m 42 #[.val (.ref a1), .val (.long q2), .second, .val (.int (((((((8 : Int32) * (2 : Int32)) * (2 : Int32)) * (2 : Int32)) * (2 : Int32)) * (2 : Int32)) * (2 : Int32)))] [])) _
    refine XS.iloadN X4.here hx rfl (hb hby d5_42) rfl ?_
    show Steps p.tables e below (T4.setTop (mkF m 43 #[.val (.ref a1), .val (.long q2), .second, .val (.int (((((((8 : Int32) * (2 : Int32)) * (2 : Int32)) * (2 : Int32)) * (2 : Int32)) * (2 : Int32)) * (2 : Int32)))] [(.int (((((((8 : Int32) * (2 : Int32)) * (2 : Int32)) * (2 : Int32)) * (2 : Int32)) * (2 : Int32)) * (2 : Int32)))])) _
    refine XS.aloadN X4.here hx rfl (hb hby d5_43) rfl rfl ?_
    show Steps p.tables e below (T4.setTop (mkF m 44 #[.val (.ref a1), .val (.long q2), .second, .val (.int (((((((8 : Int32) * (2 : Int32)) * (2 : Int32)) * (2 : Int32)) * (2 : Int32)) * (2 : Int32)) * (2 : Int32)))] [(.ref a1), (.int (((((((8 : Int32) * (2 : Int32)) * (2 : Int32)) * (2 : Int32)) * (2 : Int32)) * (2 : Int32)) * (2 : Int32)))])) _
    refine st5 _ ?_
    show Steps p.tables e below (T5.setTop (mkF m 47 #[.val (.ref a1), .val (.long q2), .second, .val (.int (((((((8 : Int32) * (2 : Int32)) * (2 : Int32)) * (2 : Int32)) * (2 : Int32)) * (2 : Int32)) * (2 : Int32)))] [(.ref w3), (.int (((((((8 : Int32) * (2 : Int32)) * (2 : Int32)) * (2 : Int32)) * (2 : Int32)) * (2 : Int32)) * (2 : Int32)))])) _
    refine X5.arraylength hx (by rw [e5]; exact Ar_w3.1) (State.isArrayOf_alike hZ.alike Ar_w3.2.1) (g := (mkF m 47 #[.val (.ref a1), .val (.long q2), .second, .val (.int (((((((8 : Int32) * (2 : Int32)) * (2 : Int32)) * (2 : Int32)) * (2 : Int32)) * (2 : Int32)) * (2 : Int32)))] [(.ref w3), (.int (((((((8 : Int32) * (2 : Int32)) * (2 : Int32)) * (2 : Int32)) * (2 : Int32)) * (2 : Int32)) * (2 : Int32)))])) rfl rfl (hb hby d5_47) _ ?_
    rw [len_of S_w3 N_w3]
    show Steps p.tables e below (T5.setTop (mkF m 48 #[.val (.ref a1), .val (.long q2), .second, .val (.int (((((((8 : Int32) * (2 : Int32)) * (2 : Int32)) * (2 : Int32)) * (2 : Int32)) * (2 : Int32)) * (2 : Int32)))] [(.int (8 : Int32)), (.int (((((((8 : Int32) * (2 : Int32)) * (2 : Int32)) * (2 : Int32)) * (2 : Int32)) * (2 : Int32)) * (2 : Int32)))])) _
    refine XS.icmpNo X5.here hx rfl (hb hby d5_48) rfl (tlt hc48).2.2.2 ?_
    show Steps p.tables e below (T5.setTop (mkF m 51 #[.val (.ref a1), .val (.long q2), .second, .val (.int (((((((8 : Int32) * (2 : Int32)) * (2 : Int32)) * (2 : Int32)) * (2 : Int32)) * (2 : Int32)) * (2 : Int32)))] [])) _
    refine XS.aloadN X5.here hx rfl (hb hby d5_51) rfl rfl ?_
    show Steps p.tables e below (T5.setTop (mkF m 52 #[.val (.ref a1), .val (.long q2), .second, .val (.int (((((((8 : Int32) * (2 : Int32)) * (2 : Int32)) * (2 : Int32)) * (2 : Int32)) * (2 : Int32)) * (2 : Int32)))] [(.ref a1)])) _
    refine XS.iloadN X5.here hx rfl (hb hby d5_52) rfl ?_
    show Steps p.tables e below (T5.setTop (mkF m 53 #[.val (.ref a1), .val (.long q2), .second, .val (.int (((((((8 : Int32) * (2 : Int32)) * (2 : Int32)) * (2 : Int32)) * (2 : Int32)) * (2 : Int32)) * (2 : Int32)))] [(.int (((((((8 : Int32) * (2 : Int32)) * (2 : Int32)) * (2 : Int32)) * (2 : Int32)) * (2 : Int32)) * (2 : Int32))), (.ref a1)])) _
    refine st6.trans ?_
    show Steps p.tables e below (T6.setTop (mkF m 56 #[.val (.ref a1), .val (.long q2), .second, .val (.int (((((((8 : Int32) * (2 : Int32)) * (2 : Int32)) * (2 : Int32)) * (2 : Int32)) * (2 : Int32)) * (2 : Int32)))] [])) _
    exact X6.returnOut hx Bd.returns (hb hby d5_56) hr
  · show Q5 Z a1 zz h0 n0 _ T6.heap _
    exact ⟨rfl, N6, K6, Ec6, b6, k6b, Fh6, hz ▸ Vb6⟩
set_option maxRecDepth 65536 in
set_option maxHeartbeats 40000000 in
theorem rm5_7 (l : Launch) (Z : State) (a0 : Array Value) (hw : ∀ d ∈ tables_1, d.before a0 Z = true) (ws : List Jvm.Cond) (a1 : Addr) (q2 : Int64) (w3 : Addr) (cl_w3 : Cell) (kw : ClassId) (w9 : Addr) (u9 zz : Int32) (h0 : Heap) (n0 : Nat) (Z0 : n0 ≤ h0.size) (F_slotHashes_a1 : Fld Z h0 a1 "com/example/wheredb/wheredb/storage/MemorySet" "slotHashes" "[I" (.ref w3)) (Ar_w3 : Arr Z h0 w3 cl_w3 .int) (S_w3 : cl_w3.slots.size = (8 : Int32).toNatClampNeg) (N_w3 : ¬ (8 : Int32) < 0) (E_a1 : Exa Z h0 a1 "com/example/wheredb/wheredb/storage/MemorySet") (F_slotCells_a1 : Fld Z h0 a1 "com/example/wheredb/wheredb/storage/MemorySet" "slotCells" "[J" (.ref w9)) (F_slotShift_a1 : Fld Z h0 a1 "com/example/wheredb/wheredb/storage/MemorySet" "slotShift" "I" (.int u9)) (g_a1 : n0 ≤ a1) (V5 : Arv Z h0 w3 kw .int (8 : Int32) [] (.int (0 : Int32))) (hz : ((((((((8 : Int32) * (2 : Int32)) * (2 : Int32)) * (2 : Int32)) * (2 : Int32)) * (2 : Int32)) * (2 : Int32)) * (2 : Int32)) = zz) (hc5 : ¬ ((0 : Int32) < (lcmpW q2 (805306368 : Int64)))) (hnz26 : ¬ ((4 : Int32) = (0 : Int32))) (hc32 : (lcmpW ((((8 : Int32) / (4 : Int32)) * (3 : Int32)).toInt64) q2) < (0 : Int32)) (hnz26_25 : ¬ ((4 : Int32) = (0 : Int32))) (hc32_31 : (lcmpW (((((8 : Int32) * (2 : Int32)) / (4 : Int32)) * (3 : Int32)).toInt64) q2) < (0 : Int32)) (hnz26_39 : ¬ ((4 : Int32) = (0 : Int32))) (hc32_45 : (lcmpW ((((((8 : Int32) * (2 : Int32)) * (2 : Int32)) / (4 : Int32)) * (3 : Int32)).toInt64) q2) < (0 : Int32)) (hnz26_53 : ¬ ((4 : Int32) = (0 : Int32))) (hc32_59 : (lcmpW (((((((8 : Int32) * (2 : Int32)) * (2 : Int32)) * (2 : Int32)) / (4 : Int32)) * (3 : Int32)).toInt64) q2) < (0 : Int32)) (hnz26_67 : ¬ ((4 : Int32) = (0 : Int32))) (hc32_73 : (lcmpW ((((((((8 : Int32) * (2 : Int32)) * (2 : Int32)) * (2 : Int32)) * (2 : Int32)) / (4 : Int32)) * (3 : Int32)).toInt64) q2) < (0 : Int32)) (hnz26_81 : ¬ ((4 : Int32) = (0 : Int32))) (hc32_87 : (lcmpW (((((((((8 : Int32) * (2 : Int32)) * (2 : Int32)) * (2 : Int32)) * (2 : Int32)) * (2 : Int32)) / (4 : Int32)) * (3 : Int32)).toInt64) q2) < (0 : Int32)) (hnz26_95 : ¬ ((4 : Int32) = (0 : Int32))) (hc32_101 : (lcmpW ((((((((((8 : Int32) * (2 : Int32)) * (2 : Int32)) * (2 : Int32)) * (2 : Int32)) * (2 : Int32)) * (2 : Int32)) / (4 : Int32)) * (3 : Int32)).toInt64) q2) < (0 : Int32)) (hnz26_109 : ¬ ((4 : Int32) = (0 : Int32))) (hc32_115 : ¬ ((lcmpW (((((((((((8 : Int32) * (2 : Int32)) * (2 : Int32)) * (2 : Int32)) * (2 : Int32)) * (2 : Int32)) * (2 : Int32)) * (2 : Int32)) / (4 : Int32)) * (3 : Int32)).toInt64) q2) < (0 : Int32))) (hc48 : (8 : Int32) < ((((((((8 : Int32) * (2 : Int32)) * (2 : Int32)) * (2 : Int32)) * (2 : Int32)) * (2 : Int32)) * (2 : Int32)) * (2 : Int32))) :
    MetFree l (⟨"com/example/wheredb/wheredb/storage/MemorySet", "reserve", "(J)V"⟩ : MethodName) (head1 (Jvm.Cond.code (⟨"com/example/wheredb/wheredb/storage/MemorySet", "reserve", "(J)V"⟩ : MethodName) prog_17_method_5_code 4 none :: ws) ({ frames := 2, cells := 2, slots := 2048, locals := 33 } : Room)) (fun a U => a = #[(.ref a1), (.long q2)] ∧ Z.Warmed39 U.vm ∧ U.heap = h0) (fun _ _ _ _ _ => True) (fun _ U o U' => ∃ v L, o = .returned v ∧ Q5 Z a1 zz h0 n0 v U'.heap L ∧ FrameEnd U o U' L ({ frames := 2, cells := 2, slots := 2048, locals := 33 } : Room).cells ({ frames := 2, cells := 2, slots := 2048, locals := 33 } : Room).slots) := by
  refine MetFree.of_bodySF (plainFor_of_name pn_5) hisR ?_
  intro p e s m args below meth c s₁ Bd hml0 hP hK
  obtain ⟨rfl, hZ, hh⟩ := hP
  have hx := Bd.exec
  have hby := Bd.bytes
  have hml : c.maxLocals = 4 := hml0
  have hown : s.vm.findClass "com/example/wheredb/wheredb/storage/MemorySet" = some m.cls := findClass_of_methodNamed Bd.named
  have hnm := (name_of_methodNamed Bd.named Bd.method).1
  have X0 : Stand p l e ({ frames := 2, cells := 2, slots := 2048, locals := 33 } : Room) s m #[(.ref a1), (.long q2)] below meth c s₁ [] 0 0 := Stand.of_body Bd
  have e0 : s₁.heap = h0 := by rw [← hh, Bd.state]; rfl
  have N0 := Fr.nil n0
  have pre0 : ∀ t, Steps p.tables e below (s₁.setTop (mkF m 0 #[.val (.ref a1), .val (.long q2), .second, .unset] [])) t → Steps p.tables e below (s₁.setTop (entryFrame m #[(.ref a1), (.long q2)] 4)) t := fun t k => castTop (ef_5 m a1 q2) k
  obtain ⟨T4, X4, e4, st4⟩ := getF X0 hx hZ hown (host := "") (Or.inl (hw _ (List.mem_of_getElem? (i := 17) rfl))) Via.refl e0 F_slotHashes_a1 (g := (mkF m 19 #[.val (.ref a1), .val (.long q2), .second, .unset] [(.ref a1)])) rfl rfl (hb hby d5_19)
  obtain ⟨T5, X5, e5, st5⟩ := getF X4 hx hZ hown (host := "") (Or.inl (hw _ (List.mem_of_getElem? (i := 17) rfl))) Via.refl e4 F_slotHashes_a1 (g := (mkF m 44 #[.val (.ref a1), .val (.long q2), .second, .val (.int ((((((((8 : Int32) * (2 : Int32)) * (2 : Int32)) * (2 : Int32)) * (2 : Int32)) * (2 : Int32)) * (2 : Int32)) * (2 : Int32)))] [(.ref a1), (.int ((((((((8 : Int32) * (2 : Int32)) * (2 : Int32)) * (2 : Int32)) * (2 : Int32)) * (2 : Int32)) * (2 : Int32)) * (2 : Int32)))])) rfl rfl (hb hby d5_44)
  obtain ⟨cq6, q6, q6'⟩ := E_a1.cell
  obtain ⟨_, _, ⟨T6, L6, k6, n6⟩, -, X6, ⟨Lc6, hQ6, l6, y6, z6⟩, st6⟩ := X5.privateBack hx (y := (⟨"com/example/wheredb/wheredb/storage/MemorySet", "growTable", "(I)V"⟩ : MethodName)) hown (mvT hZ (hw _ (List.mem_of_getElem? (i := 40) rfl))) (mvT hZ (hw _ (List.mem_of_getElem? (i := 41) rfl))) (own_sel (mvT hZ (hw _ (List.mem_of_getElem? (i := 1) rfl))) (Cond.privateMethod_at (mvP hZ (hw _ (List.mem_of_getElem? (i := 42) rfl)) (args := #[]))) (mvT hZ (hw _ (List.mem_of_getElem? (i := 41) rfl))) (by decide)) (Cond.privateMethod_at (mvP hZ (hw _ (List.mem_of_getElem? (i := 42) rfl)) (args := #[]))) (mvT hZ (hw _ (List.mem_of_getElem? (i := 43) rfl))) (by decide) (backOf (W := 0) (rm6 l Z a0 hw [] a1 ((((((((8 : Int32) * (2 : Int32)) * (2 : Int32)) * (2 : Int32)) * (2 : Int32)) * (2 : Int32)) * (2 : Int32)) * (2 : Int32)) w3 w9 (.int u9) kw h0 n0 Z0 F_slotHashes_a1 F_slotCells_a1 E_a1 g_a1 F_slotShift_a1 V5 (by unfold Pw; decide)) hZ (hw _ (List.mem_of_getElem? (i := 43) rfl)) (hw _ (List.mem_of_getElem? (i := 2) rfl)) (by decide) (by decide)) (g := (mkF m 53 #[.val (.ref a1), .val (.long q2), .second, .val (.int ((((((((8 : Int32) * (2 : Int32)) * (2 : Int32)) * (2 : Int32)) * (2 : Int32)) * (2 : Int32)) * (2 : Int32)) * (2 : Int32)))] [(.int ((((((((8 : Int32) * (2 : Int32)) * (2 : Int32)) * (2 : Int32)) * (2 : Int32)) * (2 : Int32)) * (2 : Int32)) * (2 : Int32))), (.ref a1)])) rfl (by rw [hml]; rfl) (Steps.refl _) (a := a1) (by rw [e5]; exact q6) q6' (argsL := [(.int ((((((((8 : Int32) * (2 : Int32)) * (2 : Int32)) * (2 : Int32)) * (2 : Int32)) * (2 : Int32)) * (2 : Int32)) * (2 : Int32)))]) (rest := []) (lenOf pd_5_4 rfl) rfl (by show 2 * 0 + _ ≤ _; exact Nat.le_of_eq rfl) (hb hby d5_53) (fun _ _ => ⟨rfl, e5, (by decide : 0 + 2 ≤ _), (by decide : 0 + 2048 ≤ _)⟩)
  dsimp only [Pt.U, Pt.locs, Pt.cells, Pt.slots] at X6 l6 y6 z6 st6 hQ6
  subst l6 y6 z6
  obtain ⟨rfl, N6q, Kc6, Ec6, b6, k6b, Fh6, Vb6⟩ := hQ6
  have N6 := Fr.app N0 N6q
  have K6 : Keep h0 T6.heap [a1] := (Keep.refl h0 [a1]).trans Kc6 (allS (Or.inl (List.mem_of_getElem? (i := 0) rfl)) all0)
  obtain ⟨fs, hr, hrun, hended, hW, hsame⟩ := X6.leave (v := none) (fun _ => rfl)
  refine ⟨_, _, pre0 _ ?_, hrun, hended, _, _, rfl, ?_, ⟨_, rfl⟩, hW, hsame.mono (by decide) (by decide)⟩
  · show Steps p.tables e below (s₁.setTop (mkF m 0 #[.val (.ref a1), .val (.long q2), .second, .unset] [])) _
    refine XS.lloadN X0.here hx rfl (hb hby d5_0) rfl ?_
    show Steps p.tables e below (s₁.setTop (mkF m 1 #[.val (.ref a1), .val (.long q2), .second, .unset] [(.long q2)])) _
    refine X0.ldc2Long hx hown (mvT hZ (hw _ (List.mem_of_getElem? (i := 39) rfl))) (g := (mkF m 1 #[.val (.ref a1), .val (.long q2), .second, .unset] [(.long q2)])) rfl (hb hby d5_1) _ ?_
    show Steps p.tables e below (s₁.setTop (mkF m 4 #[.val (.ref a1), .val (.long q2), .second, .unset] [(.long (805306368 : Int64)), (.long q2)])) _
    refine XS.lcmp X0.here hx rfl (hb hby d5_4) rfl ?_
    show Steps p.tables e below (s₁.setTop (mkF m 5 #[.val (.ref a1), .val (.long q2), .second, .unset] [(.int (lcmpW q2 (805306368 : Int64)))])) _
    refine XS.ifYes X0.here hx rfl (pc0 := 5) (pc' := 18) rfl (hb hby d5_5) rfl ((if0 _ _).trans (flt hc5).2.2.2) (by decide) (by decide) ?_
    show Steps p.tables e below (s₁.setTop (mkF m 18 #[.val (.ref a1), .val (.long q2), .second, .unset] [])) _
    refine XS.aloadN X0.here hx rfl (hb hby d5_18) rfl rfl ?_
    show Steps p.tables e below (s₁.setTop (mkF m 19 #[.val (.ref a1), .val (.long q2), .second, .unset] [(.ref a1)])) _
    refine st4 _ ?_
    show Steps p.tables e below (T4.setTop (mkF m 22 #[.val (.ref a1), .val (.long q2), .second, .unset] [(.ref w3)])) _
    refine X4.arraylength hx (by rw [e4]; exact Ar_w3.1) (State.isArrayOf_alike hZ.alike Ar_w3.2.1) (g := (mkF m 22 #[.val (.ref a1), .val (.long q2), .second, .unset] [(.ref w3)])) rfl rfl (hb hby d5_22) _ ?_
    rw [len_of S_w3 N_w3]
    show Steps p.tables e below (T4.setTop (mkF m 23 #[.val (.ref a1), .val (.long q2), .second, .unset] [(.int (8 : Int32))])) _
    refine XS.istoreN X4.here hx rfl (hb hby d5_23) rfl (l' := #[.val (.ref a1), .val (.long q2), .second, .val (.int (8 : Int32))]) rfl ?_
    show Steps p.tables e below (T4.setTop (mkF m 24 #[.val (.ref a1), .val (.long q2), .second, .val (.int (8 : Int32))] [])) _
    refine XS.iloadN X4.here hx rfl (hb hby d5_24) rfl ?_
    show Steps p.tables e below (T4.setTop (mkF m 25 #[.val (.ref a1), .val (.long q2), .second, .val (.int (8 : Int32))] [(.int (8 : Int32))])) _
    refine XS.iconst X4.here hx rfl (hb hby d5_25) ?_
    show Steps p.tables e below (T4.setTop (mkF m 26 #[.val (.ref a1), .val (.long q2), .second, .val (.int (8 : Int32))] [(.int (4 : Int32)), (.int (8 : Int32))])) _
    refine XS.idiv X4.here hx rfl (hb hby d5_26) rfl hnz26 ?_
    show Steps p.tables e below (T4.setTop (mkF m 27 #[.val (.ref a1), .val (.long q2), .second, .val (.int (8 : Int32))] [(.int ((8 : Int32) / (4 : Int32)))])) _
    refine XS.iconst X4.here hx rfl (hb hby d5_27) ?_
    show Steps p.tables e below (T4.setTop (mkF m 28 #[.val (.ref a1), .val (.long q2), .second, .val (.int (8 : Int32))] [(.int (3 : Int32)), (.int ((8 : Int32) / (4 : Int32)))])) _
    refine XS.imul X4.here hx rfl (hb hby d5_28) rfl ?_
    show Steps p.tables e below (T4.setTop (mkF m 29 #[.val (.ref a1), .val (.long q2), .second, .val (.int (8 : Int32))] [(.int (((8 : Int32) / (4 : Int32)) * (3 : Int32)))])) _
    refine XS.i2l X4.here hx rfl (hb hby d5_29) rfl ?_
    show Steps p.tables e below (T4.setTop (mkF m 30 #[.val (.ref a1), .val (.long q2), .second, .val (.int (8 : Int32))] [(.long ((((8 : Int32) / (4 : Int32)) * (3 : Int32)).toInt64))])) _
    refine XS.lloadN X4.here hx rfl (hb hby d5_30) rfl ?_
    show Steps p.tables e below (T4.setTop (mkF m 31 #[.val (.ref a1), .val (.long q2), .second, .val (.int (8 : Int32))] [(.long q2), (.long ((((8 : Int32) / (4 : Int32)) * (3 : Int32)).toInt64))])) _
    refine XS.lcmp X4.here hx rfl (hb hby d5_31) rfl ?_
    show Steps p.tables e below (T4.setTop (mkF m 32 #[.val (.ref a1), .val (.long q2), .second, .val (.int (8 : Int32))] [(.int (lcmpW ((((8 : Int32) / (4 : Int32)) * (3 : Int32)).toInt64) q2))])) _
    refine XS.ifNo X4.here hx rfl (hb hby d5_32) rfl ((if0 _ _).trans (tlt hc32).2.1) ?_
    show Steps p.tables e below (T4.setTop (mkF m 35 #[.val (.ref a1), .val (.long q2), .second, .val (.int (8 : Int32))] [])) _
    refine XS.iloadN X4.here hx rfl (hb hby d5_35) rfl ?_
    show Steps p.tables e below (T4.setTop (mkF m 36 #[.val (.ref a1), .val (.long q2), .second, .val (.int (8 : Int32))] [(.int (8 : Int32))])) _
    refine XS.iconst X4.here hx rfl (hb hby d5_36) ?_
    show Steps p.tables e below (T4.setTop (mkF m 37 #[.val (.ref a1), .val (.long q2), .second, .val (.int (8 : Int32))] [(.int (2 : Int32)), (.int (8 : Int32))])) _
    refine XS.imul X4.here hx rfl (hb hby d5_37) rfl ?_
    show Steps p.tables e below (T4.setTop (mkF m 38 #[.val (.ref a1), .val (.long q2), .second, .val (.int (8 : Int32))] [(.int ((8 : Int32) * (2 : Int32)))])) _
    refine XS.istoreN X4.here hx rfl (hb hby d5_38) rfl (l' := #[.val (.ref a1), .val (.long q2), .second, .val (.int ((8 : Int32) * (2 : Int32)))]) rfl ?_
    show Steps p.tables e below (T4.setTop (mkF m 39 #[.val (.ref a1), .val (.long q2), .second, .val (.int ((8 : Int32) * (2 : Int32)))] [])) _
    refine XS.goto X4.here hx rfl (pc0 := 39) (pc' := 24) rfl (hb hby d5_39) (by decide) (by decide) ?_
    show Steps p.tables e below (T4.setTop (mkF m 24 #[.val (.ref a1), .val (.long q2), .second, .val (.int ((8 : Int32) * (2 : Int32)))] [])) _
    refine XS.iloadN X4.here hx rfl (hb hby d5_24) rfl ?_
    show Steps p.tables e below (T4.setTop (mkF m 25 #[.val (.ref a1), .val (.long q2), .second, .val (.int ((8 : Int32) * (2 : Int32)))] [(.int ((8 : Int32) * (2 : Int32)))])) _
    refine XS.iconst X4.here hx rfl (hb hby d5_25) ?_
    show Steps p.tables e below (T4.setTop (mkF m 26 #[.val (.ref a1), .val (.long q2), .second, .val (.int ((8 : Int32) * (2 : Int32)))] [(.int (4 : Int32)), (.int ((8 : Int32) * (2 : Int32)))])) _
    refine XS.idiv X4.here hx rfl (hb hby d5_26) rfl hnz26_25 ?_
    show Steps p.tables e below (T4.setTop (mkF m 27 #[.val (.ref a1), .val (.long q2), .second, .val (.int ((8 : Int32) * (2 : Int32)))] [(.int (((8 : Int32) * (2 : Int32)) / (4 : Int32)))])) _
    refine XS.iconst X4.here hx rfl (hb hby d5_27) ?_
    show Steps p.tables e below (T4.setTop (mkF m 28 #[.val (.ref a1), .val (.long q2), .second, .val (.int ((8 : Int32) * (2 : Int32)))] [(.int (3 : Int32)), (.int (((8 : Int32) * (2 : Int32)) / (4 : Int32)))])) _
    refine XS.imul X4.here hx rfl (hb hby d5_28) rfl ?_
    show Steps p.tables e below (T4.setTop (mkF m 29 #[.val (.ref a1), .val (.long q2), .second, .val (.int ((8 : Int32) * (2 : Int32)))] [(.int ((((8 : Int32) * (2 : Int32)) / (4 : Int32)) * (3 : Int32)))])) _
    refine XS.i2l X4.here hx rfl (hb hby d5_29) rfl ?_
    show Steps p.tables e below (T4.setTop (mkF m 30 #[.val (.ref a1), .val (.long q2), .second, .val (.int ((8 : Int32) * (2 : Int32)))] [(.long (((((8 : Int32) * (2 : Int32)) / (4 : Int32)) * (3 : Int32)).toInt64))])) _
    refine XS.lloadN X4.here hx rfl (hb hby d5_30) rfl ?_
    show Steps p.tables e below (T4.setTop (mkF m 31 #[.val (.ref a1), .val (.long q2), .second, .val (.int ((8 : Int32) * (2 : Int32)))] [(.long q2), (.long (((((8 : Int32) * (2 : Int32)) / (4 : Int32)) * (3 : Int32)).toInt64))])) _
    refine XS.lcmp X4.here hx rfl (hb hby d5_31) rfl ?_
    show Steps p.tables e below (T4.setTop (mkF m 32 #[.val (.ref a1), .val (.long q2), .second, .val (.int ((8 : Int32) * (2 : Int32)))] [(.int (lcmpW (((((8 : Int32) * (2 : Int32)) / (4 : Int32)) * (3 : Int32)).toInt64) q2))])) _
    refine XS.ifNo X4.here hx rfl (hb hby d5_32) rfl ((if0 _ _).trans (tlt hc32_31).2.1) ?_
    show Steps p.tables e below (T4.setTop (mkF m 35 #[.val (.ref a1), .val (.long q2), .second, .val (.int ((8 : Int32) * (2 : Int32)))] [])) _
    refine XS.iloadN X4.here hx rfl (hb hby d5_35) rfl ?_
    show Steps p.tables e below (T4.setTop (mkF m 36 #[.val (.ref a1), .val (.long q2), .second, .val (.int ((8 : Int32) * (2 : Int32)))] [(.int ((8 : Int32) * (2 : Int32)))])) _
    refine XS.iconst X4.here hx rfl (hb hby d5_36) ?_
    show Steps p.tables e below (T4.setTop (mkF m 37 #[.val (.ref a1), .val (.long q2), .second, .val (.int ((8 : Int32) * (2 : Int32)))] [(.int (2 : Int32)), (.int ((8 : Int32) * (2 : Int32)))])) _
    refine XS.imul X4.here hx rfl (hb hby d5_37) rfl ?_
    show Steps p.tables e below (T4.setTop (mkF m 38 #[.val (.ref a1), .val (.long q2), .second, .val (.int ((8 : Int32) * (2 : Int32)))] [(.int (((8 : Int32) * (2 : Int32)) * (2 : Int32)))])) _
    refine XS.istoreN X4.here hx rfl (hb hby d5_38) rfl (l' := #[.val (.ref a1), .val (.long q2), .second, .val (.int (((8 : Int32) * (2 : Int32)) * (2 : Int32)))]) rfl ?_
    show Steps p.tables e below (T4.setTop (mkF m 39 #[.val (.ref a1), .val (.long q2), .second, .val (.int (((8 : Int32) * (2 : Int32)) * (2 : Int32)))] [])) _
    refine XS.goto X4.here hx rfl (pc0 := 39) (pc' := 24) rfl (hb hby d5_39) (by decide) (by decide) ?_
    show Steps p.tables e below (T4.setTop (mkF m 24 #[.val (.ref a1), .val (.long q2), .second, .val (.int (((8 : Int32) * (2 : Int32)) * (2 : Int32)))] [])) _
    refine XS.iloadN X4.here hx rfl (hb hby d5_24) rfl ?_
    show Steps p.tables e below (T4.setTop (mkF m 25 #[.val (.ref a1), .val (.long q2), .second, .val (.int (((8 : Int32) * (2 : Int32)) * (2 : Int32)))] [(.int (((8 : Int32) * (2 : Int32)) * (2 : Int32)))])) _
    refine XS.iconst X4.here hx rfl (hb hby d5_25) ?_
    show Steps p.tables e below (T4.setTop (mkF m 26 #[.val (.ref a1), .val (.long q2), .second, .val (.int (((8 : Int32) * (2 : Int32)) * (2 : Int32)))] [(.int (4 : Int32)), (.int (((8 : Int32) * (2 : Int32)) * (2 : Int32)))])) _
    refine XS.idiv X4.here hx rfl (hb hby d5_26) rfl hnz26_39 ?_
    show Steps p.tables e below (T4.setTop (mkF m 27 #[.val (.ref a1), .val (.long q2), .second, .val (.int (((8 : Int32) * (2 : Int32)) * (2 : Int32)))] [(.int ((((8 : Int32) * (2 : Int32)) * (2 : Int32)) / (4 : Int32)))])) _
    refine XS.iconst X4.here hx rfl (hb hby d5_27) ?_
    show Steps p.tables e below (T4.setTop (mkF m 28 #[.val (.ref a1), .val (.long q2), .second, .val (.int (((8 : Int32) * (2 : Int32)) * (2 : Int32)))] [(.int (3 : Int32)), (.int ((((8 : Int32) * (2 : Int32)) * (2 : Int32)) / (4 : Int32)))])) _
    refine XS.imul X4.here hx rfl (hb hby d5_28) rfl ?_
    show Steps p.tables e below (T4.setTop (mkF m 29 #[.val (.ref a1), .val (.long q2), .second, .val (.int (((8 : Int32) * (2 : Int32)) * (2 : Int32)))] [(.int (((((8 : Int32) * (2 : Int32)) * (2 : Int32)) / (4 : Int32)) * (3 : Int32)))])) _
    refine XS.i2l X4.here hx rfl (hb hby d5_29) rfl ?_
    show Steps p.tables e below (T4.setTop (mkF m 30 #[.val (.ref a1), .val (.long q2), .second, .val (.int (((8 : Int32) * (2 : Int32)) * (2 : Int32)))] [(.long ((((((8 : Int32) * (2 : Int32)) * (2 : Int32)) / (4 : Int32)) * (3 : Int32)).toInt64))])) _
    refine XS.lloadN X4.here hx rfl (hb hby d5_30) rfl ?_
    show Steps p.tables e below (T4.setTop (mkF m 31 #[.val (.ref a1), .val (.long q2), .second, .val (.int (((8 : Int32) * (2 : Int32)) * (2 : Int32)))] [(.long q2), (.long ((((((8 : Int32) * (2 : Int32)) * (2 : Int32)) / (4 : Int32)) * (3 : Int32)).toInt64))])) _
    refine XS.lcmp X4.here hx rfl (hb hby d5_31) rfl ?_
    show Steps p.tables e below (T4.setTop (mkF m 32 #[.val (.ref a1), .val (.long q2), .second, .val (.int (((8 : Int32) * (2 : Int32)) * (2 : Int32)))] [(.int (lcmpW ((((((8 : Int32) * (2 : Int32)) * (2 : Int32)) / (4 : Int32)) * (3 : Int32)).toInt64) q2))])) _
    refine XS.ifNo X4.here hx rfl (hb hby d5_32) rfl ((if0 _ _).trans (tlt hc32_45).2.1) ?_
    show Steps p.tables e below (T4.setTop (mkF m 35 #[.val (.ref a1), .val (.long q2), .second, .val (.int (((8 : Int32) * (2 : Int32)) * (2 : Int32)))] [])) _
    refine XS.iloadN X4.here hx rfl (hb hby d5_35) rfl ?_
    show Steps p.tables e below (T4.setTop (mkF m 36 #[.val (.ref a1), .val (.long q2), .second, .val (.int (((8 : Int32) * (2 : Int32)) * (2 : Int32)))] [(.int (((8 : Int32) * (2 : Int32)) * (2 : Int32)))])) _
    refine XS.iconst X4.here hx rfl (hb hby d5_36) ?_
    show Steps p.tables e below (T4.setTop (mkF m 37 #[.val (.ref a1), .val (.long q2), .second, .val (.int (((8 : Int32) * (2 : Int32)) * (2 : Int32)))] [(.int (2 : Int32)), (.int (((8 : Int32) * (2 : Int32)) * (2 : Int32)))])) _
    refine XS.imul X4.here hx rfl (hb hby d5_37) rfl ?_
    show Steps p.tables e below (T4.setTop (mkF m 38 #[.val (.ref a1), .val (.long q2), .second, .val (.int (((8 : Int32) * (2 : Int32)) * (2 : Int32)))] [(.int ((((8 : Int32) * (2 : Int32)) * (2 : Int32)) * (2 : Int32)))])) _
    refine XS.istoreN X4.here hx rfl (hb hby d5_38) rfl (l' := #[.val (.ref a1), .val (.long q2), .second, .val (.int ((((8 : Int32) * (2 : Int32)) * (2 : Int32)) * (2 : Int32)))]) rfl ?_
    show Steps p.tables e below (T4.setTop (mkF m 39 #[.val (.ref a1), .val (.long q2), .second, .val (.int ((((8 : Int32) * (2 : Int32)) * (2 : Int32)) * (2 : Int32)))] [])) _
    refine XS.goto X4.here hx rfl (pc0 := 39) (pc' := 24) rfl (hb hby d5_39) (by decide) (by decide) ?_
    show Steps p.tables e below (T4.setTop (mkF m 24 #[.val (.ref a1), .val (.long q2), .second, .val (.int ((((8 : Int32) * (2 : Int32)) * (2 : Int32)) * (2 : Int32)))] [])) _
    refine XS.iloadN X4.here hx rfl (hb hby d5_24) rfl ?_
    show Steps p.tables e below (T4.setTop (mkF m 25 #[.val (.ref a1), .val (.long q2), .second, .val (.int ((((8 : Int32) * (2 : Int32)) * (2 : Int32)) * (2 : Int32)))] [(.int ((((8 : Int32) * (2 : Int32)) * (2 : Int32)) * (2 : Int32)))])) _
    refine XS.iconst X4.here hx rfl (hb hby d5_25) ?_
    show Steps p.tables e below (T4.setTop (mkF m 26 #[.val (.ref a1), .val (.long q2), .second, .val (.int ((((8 : Int32) * (2 : Int32)) * (2 : Int32)) * (2 : Int32)))] [(.int (4 : Int32)), (.int ((((8 : Int32) * (2 : Int32)) * (2 : Int32)) * (2 : Int32)))])) _
    refine XS.idiv X4.here hx rfl (hb hby d5_26) rfl hnz26_53 ?_
    show Steps p.tables e below (T4.setTop (mkF m 27 #[.val (.ref a1), .val (.long q2), .second, .val (.int ((((8 : Int32) * (2 : Int32)) * (2 : Int32)) * (2 : Int32)))] [(.int (((((8 : Int32) * (2 : Int32)) * (2 : Int32)) * (2 : Int32)) / (4 : Int32)))])) _
    refine XS.iconst X4.here hx rfl (hb hby d5_27) ?_
    show Steps p.tables e below (T4.setTop (mkF m 28 #[.val (.ref a1), .val (.long q2), .second, .val (.int ((((8 : Int32) * (2 : Int32)) * (2 : Int32)) * (2 : Int32)))] [(.int (3 : Int32)), (.int (((((8 : Int32) * (2 : Int32)) * (2 : Int32)) * (2 : Int32)) / (4 : Int32)))])) _
    refine XS.imul X4.here hx rfl (hb hby d5_28) rfl ?_
    show Steps p.tables e below (T4.setTop (mkF m 29 #[.val (.ref a1), .val (.long q2), .second, .val (.int ((((8 : Int32) * (2 : Int32)) * (2 : Int32)) * (2 : Int32)))] [(.int ((((((8 : Int32) * (2 : Int32)) * (2 : Int32)) * (2 : Int32)) / (4 : Int32)) * (3 : Int32)))])) _
    refine XS.i2l X4.here hx rfl (hb hby d5_29) rfl ?_
    show Steps p.tables e below (T4.setTop (mkF m 30 #[.val (.ref a1), .val (.long q2), .second, .val (.int ((((8 : Int32) * (2 : Int32)) * (2 : Int32)) * (2 : Int32)))] [(.long (((((((8 : Int32) * (2 : Int32)) * (2 : Int32)) * (2 : Int32)) / (4 : Int32)) * (3 : Int32)).toInt64))])) _
    refine XS.lloadN X4.here hx rfl (hb hby d5_30) rfl ?_
    show Steps p.tables e below (T4.setTop (mkF m 31 #[.val (.ref a1), .val (.long q2), .second, .val (.int ((((8 : Int32) * (2 : Int32)) * (2 : Int32)) * (2 : Int32)))] [(.long q2), (.long (((((((8 : Int32) * (2 : Int32)) * (2 : Int32)) * (2 : Int32)) / (4 : Int32)) * (3 : Int32)).toInt64))])) _
    refine XS.lcmp X4.here hx rfl (hb hby d5_31) rfl ?_
    show Steps p.tables e below (T4.setTop (mkF m 32 #[.val (.ref a1), .val (.long q2), .second, .val (.int ((((8 : Int32) * (2 : Int32)) * (2 : Int32)) * (2 : Int32)))] [(.int (lcmpW (((((((8 : Int32) * (2 : Int32)) * (2 : Int32)) * (2 : Int32)) / (4 : Int32)) * (3 : Int32)).toInt64) q2))])) _
    refine XS.ifNo X4.here hx rfl (hb hby d5_32) rfl ((if0 _ _).trans (tlt hc32_59).2.1) ?_
    show Steps p.tables e below (T4.setTop (mkF m 35 #[.val (.ref a1), .val (.long q2), .second, .val (.int ((((8 : Int32) * (2 : Int32)) * (2 : Int32)) * (2 : Int32)))] [])) _
    refine XS.iloadN X4.here hx rfl (hb hby d5_35) rfl ?_
    show Steps p.tables e below (T4.setTop (mkF m 36 #[.val (.ref a1), .val (.long q2), .second, .val (.int ((((8 : Int32) * (2 : Int32)) * (2 : Int32)) * (2 : Int32)))] [(.int ((((8 : Int32) * (2 : Int32)) * (2 : Int32)) * (2 : Int32)))])) _
    refine XS.iconst X4.here hx rfl (hb hby d5_36) ?_
    show Steps p.tables e below (T4.setTop (mkF m 37 #[.val (.ref a1), .val (.long q2), .second, .val (.int ((((8 : Int32) * (2 : Int32)) * (2 : Int32)) * (2 : Int32)))] [(.int (2 : Int32)), (.int ((((8 : Int32) * (2 : Int32)) * (2 : Int32)) * (2 : Int32)))])) _
    refine XS.imul X4.here hx rfl (hb hby d5_37) rfl ?_
    show Steps p.tables e below (T4.setTop (mkF m 38 #[.val (.ref a1), .val (.long q2), .second, .val (.int ((((8 : Int32) * (2 : Int32)) * (2 : Int32)) * (2 : Int32)))] [(.int (((((8 : Int32) * (2 : Int32)) * (2 : Int32)) * (2 : Int32)) * (2 : Int32)))])) _
    refine XS.istoreN X4.here hx rfl (hb hby d5_38) rfl (l' := #[.val (.ref a1), .val (.long q2), .second, .val (.int (((((8 : Int32) * (2 : Int32)) * (2 : Int32)) * (2 : Int32)) * (2 : Int32)))]) rfl ?_
    show Steps p.tables e below (T4.setTop (mkF m 39 #[.val (.ref a1), .val (.long q2), .second, .val (.int (((((8 : Int32) * (2 : Int32)) * (2 : Int32)) * (2 : Int32)) * (2 : Int32)))] [])) _
    refine XS.goto X4.here hx rfl (pc0 := 39) (pc' := 24) rfl (hb hby d5_39) (by decide) (by decide) ?_
    show Steps p.tables e below (T4.setTop (mkF m 24 #[.val (.ref a1), .val (.long q2), .second, .val (.int (((((8 : Int32) * (2 : Int32)) * (2 : Int32)) * (2 : Int32)) * (2 : Int32)))] [])) _
    refine XS.iloadN X4.here hx rfl (hb hby d5_24) rfl ?_
    show Steps p.tables e below (T4.setTop (mkF m 25 #[.val (.ref a1), .val (.long q2), .second, .val (.int (((((8 : Int32) * (2 : Int32)) * (2 : Int32)) * (2 : Int32)) * (2 : Int32)))] [(.int (((((8 : Int32) * (2 : Int32)) * (2 : Int32)) * (2 : Int32)) * (2 : Int32)))])) _
    refine XS.iconst X4.here hx rfl (hb hby d5_25) ?_
    show Steps p.tables e below (T4.setTop (mkF m 26 #[.val (.ref a1), .val (.long q2), .second, .val (.int (((((8 : Int32) * (2 : Int32)) * (2 : Int32)) * (2 : Int32)) * (2 : Int32)))] [(.int (4 : Int32)), (.int (((((8 : Int32) * (2 : Int32)) * (2 : Int32)) * (2 : Int32)) * (2 : Int32)))])) _
    refine XS.idiv X4.here hx rfl (hb hby d5_26) rfl hnz26_67 ?_
    show Steps p.tables e below (T4.setTop (mkF m 27 #[.val (.ref a1), .val (.long q2), .second, .val (.int (((((8 : Int32) * (2 : Int32)) * (2 : Int32)) * (2 : Int32)) * (2 : Int32)))] [(.int ((((((8 : Int32) * (2 : Int32)) * (2 : Int32)) * (2 : Int32)) * (2 : Int32)) / (4 : Int32)))])) _
    refine XS.iconst X4.here hx rfl (hb hby d5_27) ?_
    show Steps p.tables e below (T4.setTop (mkF m 28 #[.val (.ref a1), .val (.long q2), .second, .val (.int (((((8 : Int32) * (2 : Int32)) * (2 : Int32)) * (2 : Int32)) * (2 : Int32)))] [(.int (3 : Int32)), (.int ((((((8 : Int32) * (2 : Int32)) * (2 : Int32)) * (2 : Int32)) * (2 : Int32)) / (4 : Int32)))])) _
    refine XS.imul X4.here hx rfl (hb hby d5_28) rfl ?_
    show Steps p.tables e below (T4.setTop (mkF m 29 #[.val (.ref a1), .val (.long q2), .second, .val (.int (((((8 : Int32) * (2 : Int32)) * (2 : Int32)) * (2 : Int32)) * (2 : Int32)))] [(.int (((((((8 : Int32) * (2 : Int32)) * (2 : Int32)) * (2 : Int32)) * (2 : Int32)) / (4 : Int32)) * (3 : Int32)))])) _
    refine XS.i2l X4.here hx rfl (hb hby d5_29) rfl ?_
    show Steps p.tables e below (T4.setTop (mkF m 30 #[.val (.ref a1), .val (.long q2), .second, .val (.int (((((8 : Int32) * (2 : Int32)) * (2 : Int32)) * (2 : Int32)) * (2 : Int32)))] [(.long ((((((((8 : Int32) * (2 : Int32)) * (2 : Int32)) * (2 : Int32)) * (2 : Int32)) / (4 : Int32)) * (3 : Int32)).toInt64))])) _
    refine XS.lloadN X4.here hx rfl (hb hby d5_30) rfl ?_
    show Steps p.tables e below (T4.setTop (mkF m 31 #[.val (.ref a1), .val (.long q2), .second, .val (.int (((((8 : Int32) * (2 : Int32)) * (2 : Int32)) * (2 : Int32)) * (2 : Int32)))] [(.long q2), (.long ((((((((8 : Int32) * (2 : Int32)) * (2 : Int32)) * (2 : Int32)) * (2 : Int32)) / (4 : Int32)) * (3 : Int32)).toInt64))])) _
    refine XS.lcmp X4.here hx rfl (hb hby d5_31) rfl ?_
    show Steps p.tables e below (T4.setTop (mkF m 32 #[.val (.ref a1), .val (.long q2), .second, .val (.int (((((8 : Int32) * (2 : Int32)) * (2 : Int32)) * (2 : Int32)) * (2 : Int32)))] [(.int (lcmpW ((((((((8 : Int32) * (2 : Int32)) * (2 : Int32)) * (2 : Int32)) * (2 : Int32)) / (4 : Int32)) * (3 : Int32)).toInt64) q2))])) _
    refine XS.ifNo X4.here hx rfl (hb hby d5_32) rfl ((if0 _ _).trans (tlt hc32_73).2.1) ?_
    show Steps p.tables e below (T4.setTop (mkF m 35 #[.val (.ref a1), .val (.long q2), .second, .val (.int (((((8 : Int32) * (2 : Int32)) * (2 : Int32)) * (2 : Int32)) * (2 : Int32)))] [])) _
    refine XS.iloadN X4.here hx rfl (hb hby d5_35) rfl ?_
    show Steps p.tables e below (T4.setTop (mkF m 36 #[.val (.ref a1), .val (.long q2), .second, .val (.int (((((8 : Int32) * (2 : Int32)) * (2 : Int32)) * (2 : Int32)) * (2 : Int32)))] [(.int (((((8 : Int32) * (2 : Int32)) * (2 : Int32)) * (2 : Int32)) * (2 : Int32)))])) _
    refine XS.iconst X4.here hx rfl (hb hby d5_36) ?_
    show Steps p.tables e below (T4.setTop (mkF m 37 #[.val (.ref a1), .val (.long q2), .second, .val (.int (((((8 : Int32) * (2 : Int32)) * (2 : Int32)) * (2 : Int32)) * (2 : Int32)))] [(.int (2 : Int32)), (.int (((((8 : Int32) * (2 : Int32)) * (2 : Int32)) * (2 : Int32)) * (2 : Int32)))])) _
    refine XS.imul X4.here hx rfl (hb hby d5_37) rfl ?_
    show Steps p.tables e below (T4.setTop (mkF m 38 #[.val (.ref a1), .val (.long q2), .second, .val (.int (((((8 : Int32) * (2 : Int32)) * (2 : Int32)) * (2 : Int32)) * (2 : Int32)))] [(.int ((((((8 : Int32) * (2 : Int32)) * (2 : Int32)) * (2 : Int32)) * (2 : Int32)) * (2 : Int32)))])) _
    refine XS.istoreN X4.here hx rfl (hb hby d5_38) rfl (l' := #[.val (.ref a1), .val (.long q2), .second, .val (.int ((((((8 : Int32) * (2 : Int32)) * (2 : Int32)) * (2 : Int32)) * (2 : Int32)) * (2 : Int32)))]) rfl ?_
    show Steps p.tables e below (T4.setTop (mkF m 39 #[.val (.ref a1), .val (.long q2), .second, .val (.int ((((((8 : Int32) * (2 : Int32)) * (2 : Int32)) * (2 : Int32)) * (2 : Int32)) * (2 : Int32)))] [])) _
    refine XS.goto X4.here hx rfl (pc0 := 39) (pc' := 24) rfl (hb hby d5_39) (by decide) (by decide) ?_
    show Steps p.tables e below (T4.setTop (mkF m 24 #[.val (.ref a1), .val (.long q2), .second, .val (.int ((((((8 : Int32) * (2 : Int32)) * (2 : Int32)) * (2 : Int32)) * (2 : Int32)) * (2 : Int32)))] [])) _
    refine XS.iloadN X4.here hx rfl (hb hby d5_24) rfl ?_
    show Steps p.tables e below (T4.setTop (mkF m 25 #[.val (.ref a1), .val (.long q2), .second, .val (.int ((((((8 : Int32) * (2 : Int32)) * (2 : Int32)) * (2 : Int32)) * (2 : Int32)) * (2 : Int32)))] [(.int ((((((8 : Int32) * (2 : Int32)) * (2 : Int32)) * (2 : Int32)) * (2 : Int32)) * (2 : Int32)))])) _
    refine XS.iconst X4.here hx rfl (hb hby d5_25) ?_
    show Steps p.tables e below (T4.setTop (mkF m 26 #[.val (.ref a1), .val (.long q2), .second, .val (.int ((((((8 : Int32) * (2 : Int32)) * (2 : Int32)) * (2 : Int32)) * (2 : Int32)) * (2 : Int32)))] [(.int (4 : Int32)), (.int ((((((8 : Int32) * (2 : Int32)) * (2 : Int32)) * (2 : Int32)) * (2 : Int32)) * (2 : Int32)))])) _
    refine XS.idiv X4.here hx rfl (hb hby d5_26) rfl hnz26_81 ?_
    show Steps p.tables e below (T4.setTop (mkF m 27 #[.val (.ref a1), .val (.long q2), .second, .val (.int ((((((8 : Int32) * (2 : Int32)) * (2 : Int32)) * (2 : Int32)) * (2 : Int32)) * (2 : Int32)))] [(.int (((((((8 : Int32) * (2 : Int32)) * (2 : Int32)) * (2 : Int32)) * (2 : Int32)) * (2 : Int32)) / (4 : Int32)))])) _
    refine XS.iconst X4.here hx rfl (hb hby d5_27) ?_
    show Steps p.tables e below (T4.setTop (mkF m 28 #[.val (.ref a1), .val (.long q2), .second, .val (.int ((((((8 : Int32) * (2 : Int32)) * (2 : Int32)) * (2 : Int32)) * (2 : Int32)) * (2 : Int32)))] [(.int (3 : Int32)), (.int (((((((8 : Int32) * (2 : Int32)) * (2 : Int32)) * (2 : Int32)) * (2 : Int32)) * (2 : Int32)) / (4 : Int32)))])) _
    refine XS.imul X4.here hx rfl (hb hby d5_28) rfl ?_
    show Steps p.tables e below (T4.setTop (mkF m 29 #[.val (.ref a1), .val (.long q2), .second, .val (.int ((((((8 : Int32) * (2 : Int32)) * (2 : Int32)) * (2 : Int32)) * (2 : Int32)) * (2 : Int32)))] [(.int ((((((((8 : Int32) * (2 : Int32)) * (2 : Int32)) * (2 : Int32)) * (2 : Int32)) * (2 : Int32)) / (4 : Int32)) * (3 : Int32)))])) _
    refine XS.i2l X4.here hx rfl (hb hby d5_29) rfl ?_
    show Steps p.tables e below (T4.setTop (mkF m 30 #[.val (.ref a1), .val (.long q2), .second, .val (.int ((((((8 : Int32) * (2 : Int32)) * (2 : Int32)) * (2 : Int32)) * (2 : Int32)) * (2 : Int32)))] [(.long (((((((((8 : Int32) * (2 : Int32)) * (2 : Int32)) * (2 : Int32)) * (2 : Int32)) * (2 : Int32)) / (4 : Int32)) * (3 : Int32)).toInt64))])) _
    refine XS.lloadN X4.here hx rfl (hb hby d5_30) rfl ?_
    show Steps p.tables e below (T4.setTop (mkF m 31 #[.val (.ref a1), .val (.long q2), .second, .val (.int ((((((8 : Int32) * (2 : Int32)) * (2 : Int32)) * (2 : Int32)) * (2 : Int32)) * (2 : Int32)))] [(.long q2), (.long (((((((((8 : Int32) * (2 : Int32)) * (2 : Int32)) * (2 : Int32)) * (2 : Int32)) * (2 : Int32)) / (4 : Int32)) * (3 : Int32)).toInt64))])) _
    refine XS.lcmp X4.here hx rfl (hb hby d5_31) rfl ?_
    show Steps p.tables e below (T4.setTop (mkF m 32 #[.val (.ref a1), .val (.long q2), .second, .val (.int ((((((8 : Int32) * (2 : Int32)) * (2 : Int32)) * (2 : Int32)) * (2 : Int32)) * (2 : Int32)))] [(.int (lcmpW (((((((((8 : Int32) * (2 : Int32)) * (2 : Int32)) * (2 : Int32)) * (2 : Int32)) * (2 : Int32)) / (4 : Int32)) * (3 : Int32)).toInt64) q2))])) _
    refine XS.ifNo X4.here hx rfl (hb hby d5_32) rfl ((if0 _ _).trans (tlt hc32_87).2.1) ?_
    show Steps p.tables e below (T4.setTop (mkF m 35 #[.val (.ref a1), .val (.long q2), .second, .val (.int ((((((8 : Int32) * (2 : Int32)) * (2 : Int32)) * (2 : Int32)) * (2 : Int32)) * (2 : Int32)))] [])) _
    refine XS.iloadN X4.here hx rfl (hb hby d5_35) rfl ?_
    show Steps p.tables e below (T4.setTop (mkF m 36 #[.val (.ref a1), .val (.long q2), .second, .val (.int ((((((8 : Int32) * (2 : Int32)) * (2 : Int32)) * (2 : Int32)) * (2 : Int32)) * (2 : Int32)))] [(.int ((((((8 : Int32) * (2 : Int32)) * (2 : Int32)) * (2 : Int32)) * (2 : Int32)) * (2 : Int32)))])) _
    refine XS.iconst X4.here hx rfl (hb hby d5_36) ?_
    show Steps p.tables e below (T4.setTop (mkF m 37 #[.val (.ref a1), .val (.long q2), .second, .val (.int ((((((8 : Int32) * (2 : Int32)) * (2 : Int32)) * (2 : Int32)) * (2 : Int32)) * (2 : Int32)))] [(.int (2 : Int32)), (.int ((((((8 : Int32) * (2 : Int32)) * (2 : Int32)) * (2 : Int32)) * (2 : Int32)) * (2 : Int32)))])) _
    refine XS.imul X4.here hx rfl (hb hby d5_37) rfl ?_
    show Steps p.tables e below (T4.setTop (mkF m 38 #[.val (.ref a1), .val (.long q2), .second, .val (.int ((((((8 : Int32) * (2 : Int32)) * (2 : Int32)) * (2 : Int32)) * (2 : Int32)) * (2 : Int32)))] [(.int (((((((8 : Int32) * (2 : Int32)) * (2 : Int32)) * (2 : Int32)) * (2 : Int32)) * (2 : Int32)) * (2 : Int32)))])) _
    refine XS.istoreN X4.here hx rfl (hb hby d5_38) rfl (l' := #[.val (.ref a1), .val (.long q2), .second, .val (.int (((((((8 : Int32) * (2 : Int32)) * (2 : Int32)) * (2 : Int32)) * (2 : Int32)) * (2 : Int32)) * (2 : Int32)))]) rfl ?_
    show Steps p.tables e below (T4.setTop (mkF m 39 #[.val (.ref a1), .val (.long q2), .second, .val (.int (((((((8 : Int32) * (2 : Int32)) * (2 : Int32)) * (2 : Int32)) * (2 : Int32)) * (2 : Int32)) * (2 : Int32)))] [])) _
    refine XS.goto X4.here hx rfl (pc0 := 39) (pc' := 24) rfl (hb hby d5_39) (by decide) (by decide) ?_
    show Steps p.tables e below (T4.setTop (mkF m 24 #[.val (.ref a1), .val (.long q2), .second, .val (.int (((((((8 : Int32) * (2 : Int32)) * (2 : Int32)) * (2 : Int32)) * (2 : Int32)) * (2 : Int32)) * (2 : Int32)))] [])) _
    refine XS.iloadN X4.here hx rfl (hb hby d5_24) rfl ?_
    show Steps p.tables e below (T4.setTop (mkF m 25 #[.val (.ref a1), .val (.long q2), .second, .val (.int (((((((8 : Int32) * (2 : Int32)) * (2 : Int32)) * (2 : Int32)) * (2 : Int32)) * (2 : Int32)) * (2 : Int32)))] [(.int (((((((8 : Int32) * (2 : Int32)) * (2 : Int32)) * (2 : Int32)) * (2 : Int32)) * (2 : Int32)) * (2 : Int32)))])) _
    refine XS.iconst X4.here hx rfl (hb hby d5_25) ?_
    show Steps p.tables e below (T4.setTop (mkF m 26 #[.val (.ref a1), .val (.long q2), .second, .val (.int (((((((8 : Int32) * (2 : Int32)) * (2 : Int32)) * (2 : Int32)) * (2 : Int32)) * (2 : Int32)) * (2 : Int32)))] [(.int (4 : Int32)), (.int (((((((8 : Int32) * (2 : Int32)) * (2 : Int32)) * (2 : Int32)) * (2 : Int32)) * (2 : Int32)) * (2 : Int32)))])) _
    refine XS.idiv X4.here hx rfl (hb hby d5_26) rfl hnz26_95 ?_
    show Steps p.tables e below (T4.setTop (mkF m 27 #[.val (.ref a1), .val (.long q2), .second, .val (.int (((((((8 : Int32) * (2 : Int32)) * (2 : Int32)) * (2 : Int32)) * (2 : Int32)) * (2 : Int32)) * (2 : Int32)))] [(.int ((((((((8 : Int32) * (2 : Int32)) * (2 : Int32)) * (2 : Int32)) * (2 : Int32)) * (2 : Int32)) * (2 : Int32)) / (4 : Int32)))])) _
    refine XS.iconst X4.here hx rfl (hb hby d5_27) ?_
    show Steps p.tables e below (T4.setTop (mkF m 28 #[.val (.ref a1), .val (.long q2), .second, .val (.int (((((((8 : Int32) * (2 : Int32)) * (2 : Int32)) * (2 : Int32)) * (2 : Int32)) * (2 : Int32)) * (2 : Int32)))] [(.int (3 : Int32)), (.int ((((((((8 : Int32) * (2 : Int32)) * (2 : Int32)) * (2 : Int32)) * (2 : Int32)) * (2 : Int32)) * (2 : Int32)) / (4 : Int32)))])) _
    refine XS.imul X4.here hx rfl (hb hby d5_28) rfl ?_
    show Steps p.tables e below (T4.setTop (mkF m 29 #[.val (.ref a1), .val (.long q2), .second, .val (.int (((((((8 : Int32) * (2 : Int32)) * (2 : Int32)) * (2 : Int32)) * (2 : Int32)) * (2 : Int32)) * (2 : Int32)))] [(.int (((((((((8 : Int32) * (2 : Int32)) * (2 : Int32)) * (2 : Int32)) * (2 : Int32)) * (2 : Int32)) * (2 : Int32)) / (4 : Int32)) * (3 : Int32)))])) _
    refine XS.i2l X4.here hx rfl (hb hby d5_29) rfl ?_
    show Steps p.tables e below (T4.setTop (mkF m 30 #[.val (.ref a1), .val (.long q2), .second, .val (.int (((((((8 : Int32) * (2 : Int32)) * (2 : Int32)) * (2 : Int32)) * (2 : Int32)) * (2 : Int32)) * (2 : Int32)))] [(.long ((((((((((8 : Int32) * (2 : Int32)) * (2 : Int32)) * (2 : Int32)) * (2 : Int32)) * (2 : Int32)) * (2 : Int32)) / (4 : Int32)) * (3 : Int32)).toInt64))])) _
    refine XS.lloadN X4.here hx rfl (hb hby d5_30) rfl ?_
    show Steps p.tables e below (T4.setTop (mkF m 31 #[.val (.ref a1), .val (.long q2), .second, .val (.int (((((((8 : Int32) * (2 : Int32)) * (2 : Int32)) * (2 : Int32)) * (2 : Int32)) * (2 : Int32)) * (2 : Int32)))] [(.long q2), (.long ((((((((((8 : Int32) * (2 : Int32)) * (2 : Int32)) * (2 : Int32)) * (2 : Int32)) * (2 : Int32)) * (2 : Int32)) / (4 : Int32)) * (3 : Int32)).toInt64))])) _
    refine XS.lcmp X4.here hx rfl (hb hby d5_31) rfl ?_
    show Steps p.tables e below (T4.setTop (mkF m 32 #[.val (.ref a1), .val (.long q2), .second, .val (.int (((((((8 : Int32) * (2 : Int32)) * (2 : Int32)) * (2 : Int32)) * (2 : Int32)) * (2 : Int32)) * (2 : Int32)))] [(.int (lcmpW ((((((((((8 : Int32) * (2 : Int32)) * (2 : Int32)) * (2 : Int32)) * (2 : Int32)) * (2 : Int32)) * (2 : Int32)) / (4 : Int32)) * (3 : Int32)).toInt64) q2))])) _
    refine XS.ifNo X4.here hx rfl (hb hby d5_32) rfl ((if0 _ _).trans (tlt hc32_101).2.1) ?_
    show Steps p.tables e below (T4.setTop (mkF m 35 #[.val (.ref a1), .val (.long q2), .second, .val (.int (((((((8 : Int32) * (2 : Int32)) * (2 : Int32)) * (2 : Int32)) * (2 : Int32)) * (2 : Int32)) * (2 : Int32)))] [])) _
    refine XS.iloadN X4.here hx rfl (hb hby d5_35) rfl ?_
    show Steps p.tables e below (T4.setTop (mkF m 36 #[.val (.ref a1), .val (.long q2), .second, .val (.int (((((((8 : Int32) * (2 : Int32)) * (2 : Int32)) * (2 : Int32)) * (2 : Int32)) * (2 : Int32)) * (2 : Int32)))] [(.int (((((((8 : Int32) * (2 : Int32)) * (2 : Int32)) * (2 : Int32)) * (2 : Int32)) * (2 : Int32)) * (2 : Int32)))])) _
    refine XS.iconst X4.here hx rfl (hb hby d5_36) ?_
    show Steps p.tables e below (T4.setTop (mkF m 37 #[.val (.ref a1), .val (.long q2), .second, .val (.int (((((((8 : Int32) * (2 : Int32)) * (2 : Int32)) * (2 : Int32)) * (2 : Int32)) * (2 : Int32)) * (2 : Int32)))] [(.int (2 : Int32)), (.int (((((((8 : Int32) * (2 : Int32)) * (2 : Int32)) * (2 : Int32)) * (2 : Int32)) * (2 : Int32)) * (2 : Int32)))])) _
    refine XS.imul X4.here hx rfl (hb hby d5_37) rfl ?_
    show Steps p.tables e below (T4.setTop (mkF m 38 #[.val (.ref a1), .val (.long q2), .second, .val (.int (((((((8 : Int32) * (2 : Int32)) * (2 : Int32)) * (2 : Int32)) * (2 : Int32)) * (2 : Int32)) * (2 : Int32)))] [(.int ((((((((8 : Int32) * (2 : Int32)) * (2 : Int32)) * (2 : Int32)) * (2 : Int32)) * (2 : Int32)) * (2 : Int32)) * (2 : Int32)))])) _
    refine XS.istoreN X4.here hx rfl (hb hby d5_38) rfl (l' := #[.val (.ref a1), .val (.long q2), .second, .val (.int ((((((((8 : Int32) * (2 : Int32)) * (2 : Int32)) * (2 : Int32)) * (2 : Int32)) * (2 : Int32)) * (2 : Int32)) * (2 : Int32)))]) rfl ?_
    show Steps p.tables e below (T4.setTop (mkF m 39 #[.val (.ref a1), .val (.long q2), .second, .val (.int ((((((((8 : Int32) * (2 : Int32)) * (2 : Int32)) * (2 : Int32)) * (2 : Int32)) * (2 : Int32)) * (2 : Int32)) * (2 : Int32)))] [])) _
    refine XS.goto X4.here hx rfl (pc0 := 39) (pc' := 24) rfl (hb hby d5_39) (by decide) (by decide) ?_
    show Steps p.tables e below (T4.setTop (mkF m 24 #[.val (.ref a1), .val (.long q2), .second, .val (.int ((((((((8 : Int32) * (2 : Int32)) * (2 : Int32)) * (2 : Int32)) * (2 : Int32)) * (2 : Int32)) * (2 : Int32)) * (2 : Int32)))] [])) _
    refine XS.iloadN X4.here hx rfl (hb hby d5_24) rfl ?_
    show Steps p.tables e below (T4.setTop (mkF m 25 #[.val (.ref a1), .val (.long q2), .second, .val (.int ((((((((8 : Int32) * (2 : Int32)) * (2 : Int32)) * (2 : Int32)) * (2 : Int32)) * (2 : Int32)) * (2 : Int32)) * (2 : Int32)))] [(.int ((((((((8 : Int32) * (2 : Int32)) * (2 : Int32)) * (2 : Int32)) * (2 : Int32)) * (2 : Int32)) * (2 : Int32)) * (2 : Int32)))])) _
    refine XS.iconst X4.here hx rfl (hb hby d5_25) ?_
    show Steps p.tables e below (T4.setTop (mkF m 26 #[.val (.ref a1), .val (.long q2), .second, .val (.int ((((((((8 : Int32) * (2 : Int32)) * (2 : Int32)) * (2 : Int32)) * (2 : Int32)) * (2 : Int32)) * (2 : Int32)) * (2 : Int32)))] [(.int (4 : Int32)), (.int ((((((((8 : Int32) * (2 : Int32)) * (2 : Int32)) * (2 : Int32)) * (2 : Int32)) * (2 : Int32)) * (2 : Int32)) * (2 : Int32)))])) _
    refine XS.idiv X4.here hx rfl (hb hby d5_26) rfl hnz26_109 ?_
    show Steps p.tables e below (T4.setTop (mkF m 27 #[.val (.ref a1), .val (.long q2), .second, .val (.int ((((((((8 : Int32) * (2 : Int32)) * (2 : Int32)) * (2 : Int32)) * (2 : Int32)) * (2 : Int32)) * (2 : Int32)) * (2 : Int32)))] [(.int (((((((((8 : Int32) * (2 : Int32)) * (2 : Int32)) * (2 : Int32)) * (2 : Int32)) * (2 : Int32)) * (2 : Int32)) * (2 : Int32)) / (4 : Int32)))])) _
    refine XS.iconst X4.here hx rfl (hb hby d5_27) ?_
    show Steps p.tables e below (T4.setTop (mkF m 28 #[.val (.ref a1), .val (.long q2), .second, .val (.int ((((((((8 : Int32) * (2 : Int32)) * (2 : Int32)) * (2 : Int32)) * (2 : Int32)) * (2 : Int32)) * (2 : Int32)) * (2 : Int32)))] [(.int (3 : Int32)), (.int (((((((((8 : Int32) * (2 : Int32)) * (2 : Int32)) * (2 : Int32)) * (2 : Int32)) * (2 : Int32)) * (2 : Int32)) * (2 : Int32)) / (4 : Int32)))])) _
    refine XS.imul X4.here hx rfl (hb hby d5_28) rfl ?_
    show Steps p.tables e below (T4.setTop (mkF m 29 #[.val (.ref a1), .val (.long q2), .second, .val (.int ((((((((8 : Int32) * (2 : Int32)) * (2 : Int32)) * (2 : Int32)) * (2 : Int32)) * (2 : Int32)) * (2 : Int32)) * (2 : Int32)))] [(.int ((((((((((8 : Int32) * (2 : Int32)) * (2 : Int32)) * (2 : Int32)) * (2 : Int32)) * (2 : Int32)) * (2 : Int32)) * (2 : Int32)) / (4 : Int32)) * (3 : Int32)))])) _
    refine XS.i2l X4.here hx rfl (hb hby d5_29) rfl ?_
    show Steps p.tables e below (T4.setTop (mkF m 30 #[.val (.ref a1), .val (.long q2), .second, .val (.int ((((((((8 : Int32) * (2 : Int32)) * (2 : Int32)) * (2 : Int32)) * (2 : Int32)) * (2 : Int32)) * (2 : Int32)) * (2 : Int32)))] [(.long (((((((((((8 : Int32) * (2 : Int32)) * (2 : Int32)) * (2 : Int32)) * (2 : Int32)) * (2 : Int32)) * (2 : Int32)) * (2 : Int32)) / (4 : Int32)) * (3 : Int32)).toInt64))])) _
    refine XS.lloadN X4.here hx rfl (hb hby d5_30) rfl ?_
    show Steps p.tables e below (T4.setTop (mkF m 31 #[.val (.ref a1), .val (.long q2), .second, .val (.int ((((((((8 : Int32) * (2 : Int32)) * (2 : Int32)) * (2 : Int32)) * (2 : Int32)) * (2 : Int32)) * (2 : Int32)) * (2 : Int32)))] [(.long q2), (.long (((((((((((8 : Int32) * (2 : Int32)) * (2 : Int32)) * (2 : Int32)) * (2 : Int32)) * (2 : Int32)) * (2 : Int32)) * (2 : Int32)) / (4 : Int32)) * (3 : Int32)).toInt64))])) _
    refine XS.lcmp X4.here hx rfl (hb hby d5_31) rfl ?_
    show Steps p.tables e below (T4.setTop (mkF m 32 #[.val (.ref a1), .val (.long q2), .second, .val (.int ((((((((8 : Int32) * (2 : Int32)) * (2 : Int32)) * (2 : Int32)) * (2 : Int32)) * (2 : Int32)) * (2 : Int32)) * (2 : Int32)))] [(.int (lcmpW (((((((((((8 : Int32) * (2 : Int32)) * (2 : Int32)) * (2 : Int32)) * (2 : Int32)) * (2 : Int32)) * (2 : Int32)) * (2 : Int32)) / (4 : Int32)) * (3 : Int32)).toInt64) q2))])) _
    refine XS.ifYes X4.here hx rfl (pc0 := 32) (pc' := 42) rfl (hb hby d5_32) rfl ((if0 _ _).trans (flt hc32_115).2.1) (by decide) (by decide) ?_
    show Steps p.tables e below (T4.setTop (mkF m 42 #[.val (.ref a1), .val (.long q2), .second, .val (.int ((((((((8 : Int32) * (2 : Int32)) * (2 : Int32)) * (2 : Int32)) * (2 : Int32)) * (2 : Int32)) * (2 : Int32)) * (2 : Int32)))] [])) _
    refine XS.iloadN X4.here hx rfl (hb hby d5_42) rfl ?_
    show Steps p.tables e below (T4.setTop (mkF m 43 #[.val (.ref a1), .val (.long q2), .second, .val (.int ((((((((8 : Int32) * (2 : Int32)) * (2 : Int32)) * (2 : Int32)) * (2 : Int32)) * (2 : Int32)) * (2 : Int32)) * (2 : Int32)))] [(.int ((((((((8 : Int32) * (2 : Int32)) * (2 : Int32)) * (2 : Int32)) * (2 : Int32)) * (2 : Int32)) * (2 : Int32)) * (2 : Int32)))])) _
    refine XS.aloadN X4.here hx rfl (hb hby d5_43) rfl rfl ?_
    show Steps p.tables e below (T4.setTop (mkF m 44 #[.val (.ref a1), .val (.long q2), .second, .val (.int ((((((((8 : Int32) * (2 : Int32)) * (2 : Int32)) * (2 : Int32)) * (2 : Int32)) * (2 : Int32)) * (2 : Int32)) * (2 : Int32)))] [(.ref a1), (.int ((((((((8 : Int32) * (2 : Int32)) * (2 : Int32)) * (2 : Int32)) * (2 : Int32)) * (2 : Int32)) * (2 : Int32)) * (2 : Int32)))])) _
    refine st5 _ ?_
    show Steps p.tables e below (T5.setTop (mkF m 47 #[.val (.ref a1), .val (.long q2), .second, .val (.int ((((((((8 : Int32) * (2 : Int32)) * (2 : Int32)) * (2 : Int32)) * (2 : Int32)) * (2 : Int32)) * (2 : Int32)) * (2 : Int32)))] [(.ref w3), (.int ((((((((8 : Int32) * (2 : Int32)) * (2 : Int32)) * (2 : Int32)) * (2 : Int32)) * (2 : Int32)) * (2 : Int32)) * (2 : Int32)))])) _
    refine X5.arraylength hx (by rw [e5]; exact Ar_w3.1) (State.isArrayOf_alike hZ.alike Ar_w3.2.1) (g := (mkF m 47 #[.val (.ref a1), .val (.long q2), .second, .val (.int ((((((((8 : Int32) * (2 : Int32)) * (2 : Int32)) * (2 : Int32)) * (2 : Int32)) * (2 : Int32)) * (2 : Int32)) * (2 : Int32)))] [(.ref w3), (.int ((((((((8 : Int32) * (2 : Int32)) * (2 : Int32)) * (2 : Int32)) * (2 : Int32)) * (2 : Int32)) * (2 : Int32)) * (2 : Int32)))])) rfl rfl (hb hby d5_47) _ ?_
    rw [len_of S_w3 N_w3]
    show Steps p.tables e below (T5.setTop (mkF m 48 #[.val (.ref a1), .val (.long q2), .second, .val (.int ((((((((8 : Int32) * (2 : Int32)) * (2 : Int32)) * (2 : Int32)) * (2 : Int32)) * (2 : Int32)) * (2 : Int32)) * (2 : Int32)))] [(.int (8 : Int32)), (.int ((((((((8 : Int32) * (2 : Int32)) * (2 : Int32)) * (2 : Int32)) * (2 : Int32)) * (2 : Int32)) * (2 : Int32)) * (2 : Int32)))])) _
    refine XS.icmpNo X5.here hx rfl (hb hby d5_48) rfl (tlt hc48).2.2.2 ?_
    show Steps p.tables e below (T5.setTop (mkF m 51 #[.val (.ref a1), .val (.long q2), .second, .val (.int ((((((((8 : Int32) * (2 : Int32)) * (2 : Int32)) * (2 : Int32)) * (2 : Int32)) * (2 : Int32)) * (2 : Int32)) * (2 : Int32)))] [])) _
    refine XS.aloadN X5.here hx rfl (hb hby d5_51) rfl rfl ?_
    show Steps p.tables e below (T5.setTop (mkF m 52 #[.val (.ref a1), .val (.long q2), .second, .val (.int ((((((((8 : Int32) * (2 : Int32)) * (2 : Int32)) * (2 : Int32)) * (2 : Int32)) * (2 : Int32)) * (2 : Int32)) * (2 : Int32)))] [(.ref a1)])) _
    refine XS.iloadN X5.here hx rfl (hb hby d5_52) rfl ?_
    show Steps p.tables e below (T5.setTop (mkF m 53 #[.val (.ref a1), .val (.long q2), .second, .val (.int ((((((((8 : Int32) * (2 : Int32)) * (2 : Int32)) * (2 : Int32)) * (2 : Int32)) * (2 : Int32)) * (2 : Int32)) * (2 : Int32)))] [(.int ((((((((8 : Int32) * (2 : Int32)) * (2 : Int32)) * (2 : Int32)) * (2 : Int32)) * (2 : Int32)) * (2 : Int32)) * (2 : Int32))), (.ref a1)])) _
    refine st6.trans ?_
    show Steps p.tables e below (T6.setTop (mkF m 56 #[.val (.ref a1), .val (.long q2), .second, .val (.int ((((((((8 : Int32) * (2 : Int32)) * (2 : Int32)) * (2 : Int32)) * (2 : Int32)) * (2 : Int32)) * (2 : Int32)) * (2 : Int32)))] [])) _
    exact X6.returnOut hx Bd.returns (hb hby d5_56) hr
  · show Q5 Z a1 zz h0 n0 _ T6.heap _
    exact ⟨rfl, N6, K6, Ec6, b6, k6b, Fh6, hz ▸ Vb6⟩
theorem rm5 (l : Launch) (Z : State) (a0 : Array Value) (hw : ∀ d ∈ tables_1, d.before a0 Z = true) (ws : List Jvm.Cond) (a1 : Addr) (q2 : Int64) (w3 : Addr) (kw : ClassId) (w9 : Addr) (u9 zz : Int32) (h0 : Heap) (n0 : Nat) (Z0 : n0 ≤ h0.size) (F_slotHashes_a1 : Fld Z h0 a1 "com/example/wheredb/wheredb/storage/MemorySet" "slotHashes" "[I" (.ref w3)) (E_a1 : Exa Z h0 a1 "com/example/wheredb/wheredb/storage/MemorySet") (F_slotCells_a1 : Fld Z h0 a1 "com/example/wheredb/wheredb/storage/MemorySet" "slotCells" "[J" (.ref w9)) (F_slotShift_a1 : Fld Z h0 a1 "com/example/wheredb/wheredb/storage/MemorySet" "slotShift" "I" (.int u9)) (g_a1 : n0 ≤ a1) (V5 : Arv Z h0 w3 kw .int (8 : Int32) [] (.int (0 : Int32))) (hq : (q2 = (6 : Int64) ∧ zz = (8 : Int32)) ∨ (q2 = (12 : Int64) ∧ zz = (16 : Int32)) ∨ (q2 = (24 : Int64) ∧ zz = (32 : Int32)) ∨ (q2 = (48 : Int64) ∧ zz = (64 : Int32)) ∨ (q2 = (96 : Int64) ∧ zz = (128 : Int32)) ∨ (q2 = (192 : Int64) ∧ zz = (256 : Int32)) ∨ (q2 = (384 : Int64) ∧ zz = (512 : Int32)) ∨ (q2 = (768 : Int64) ∧ zz = (1024 : Int32))) :
    MetFree l (⟨"com/example/wheredb/wheredb/storage/MemorySet", "reserve", "(J)V"⟩ : MethodName) (head1 (Jvm.Cond.code (⟨"com/example/wheredb/wheredb/storage/MemorySet", "reserve", "(J)V"⟩ : MethodName) prog_17_method_5_code 4 none :: ws) ({ frames := 2, cells := 2, slots := 2048, locals := 33 } : Room)) (fun a U => a = #[(.ref a1), (.long q2)] ∧ Z.Warmed39 U.vm ∧ U.heap = h0) (fun _ _ _ _ _ => True) (fun _ U o U' => ∃ v L, o = .returned v ∧ Q5 Z a1 zz h0 n0 v U'.heap L ∧ FrameEnd U o U' L ({ frames := 2, cells := 2, slots := 2048, locals := 33 } : Room).cells ({ frames := 2, cells := 2, slots := 2048, locals := 33 } : Room).slots) := by
  obtain ⟨cl_w3, Ar_w3, q1, S_w3, N_w3, H_w3, G_w3⟩ := V5
  have V5 : Arv Z h0 w3 kw .int (8 : Int32) [] (.int (0 : Int32)) := ⟨cl_w3, Ar_w3, q1, S_w3, N_w3, H_w3, G_w3⟩
  rcases hq with ⟨rfl, rfl⟩ | ⟨rfl, rfl⟩ | ⟨rfl, rfl⟩ | ⟨rfl, rfl⟩ | ⟨rfl, rfl⟩ | ⟨rfl, rfl⟩ | ⟨rfl, rfl⟩ | ⟨rfl, rfl⟩
  · exact rm5_0 l Z a0 hw ws a1 _ w3 cl_w3 kw w9 u9 _ h0 n0 Z0 F_slotHashes_a1 Ar_w3 S_w3 N_w3 E_a1 F_slotCells_a1 F_slotShift_a1 g_a1 V5 (by decide) (by decide) (by decide) (by decide) (by decide) 
  · exact rm5_1 l Z a0 hw ws a1 _ w3 cl_w3 kw w9 u9 _ h0 n0 Z0 F_slotHashes_a1 Ar_w3 S_w3 N_w3 E_a1 F_slotCells_a1 F_slotShift_a1 g_a1 V5 (by decide) (by decide) (by decide) (by decide) (by decide) (by decide) (by decide) 
  · exact rm5_2 l Z a0 hw ws a1 _ w3 cl_w3 kw w9 u9 _ h0 n0 Z0 F_slotHashes_a1 Ar_w3 S_w3 N_w3 E_a1 F_slotCells_a1 F_slotShift_a1 g_a1 V5 (by decide) (by decide) (by decide) (by decide) (by decide) (by decide) (by decide) (by decide) (by decide) 
  · exact rm5_3 l Z a0 hw ws a1 _ w3 cl_w3 kw w9 u9 _ h0 n0 Z0 F_slotHashes_a1 Ar_w3 S_w3 N_w3 E_a1 F_slotCells_a1 F_slotShift_a1 g_a1 V5 (by decide) (by decide) (by decide) (by decide) (by decide) (by decide) (by decide) (by decide) (by decide) (by decide) (by decide) 
  · exact rm5_4 l Z a0 hw ws a1 _ w3 cl_w3 kw w9 u9 _ h0 n0 Z0 F_slotHashes_a1 Ar_w3 S_w3 N_w3 E_a1 F_slotCells_a1 F_slotShift_a1 g_a1 V5 (by decide) (by decide) (by decide) (by decide) (by decide) (by decide) (by decide) (by decide) (by decide) (by decide) (by decide) (by decide) (by decide) 
  · exact rm5_5 l Z a0 hw ws a1 _ w3 cl_w3 kw w9 u9 _ h0 n0 Z0 F_slotHashes_a1 Ar_w3 S_w3 N_w3 E_a1 F_slotCells_a1 F_slotShift_a1 g_a1 V5 (by decide) (by decide) (by decide) (by decide) (by decide) (by decide) (by decide) (by decide) (by decide) (by decide) (by decide) (by decide) (by decide) (by decide) (by decide) 
  · exact rm5_6 l Z a0 hw ws a1 _ w3 cl_w3 kw w9 u9 _ h0 n0 Z0 F_slotHashes_a1 Ar_w3 S_w3 N_w3 E_a1 F_slotCells_a1 F_slotShift_a1 g_a1 V5 (by decide) (by decide) (by decide) (by decide) (by decide) (by decide) (by decide) (by decide) (by decide) (by decide) (by decide) (by decide) (by decide) (by decide) (by decide) (by decide) (by decide) 
  · exact rm5_7 l Z a0 hw ws a1 _ w3 cl_w3 kw w9 u9 _ h0 n0 Z0 F_slotHashes_a1 Ar_w3 S_w3 N_w3 E_a1 F_slotCells_a1 F_slotShift_a1 g_a1 V5 (by decide) (by decide) (by decide) (by decide) (by decide) (by decide) (by decide) (by decide) (by decide) (by decide) (by decide) (by decide) (by decide) (by decide) (by decide) (by decide) (by decide) (by decide) (by decide) 
theorem d4_0 : decode prog_17_method_4_code 0 = .ok (.lload_n 1, 1) := by decide +kernel
theorem d4_1 : decode prog_17_method_4_code 1 = .ok (.aload_n 0, 1) := by decide +kernel
theorem d4_2 : decode prog_17_method_4_code 2 = .ok (.getfield 19, 3) := by decide +kernel
theorem d4_5 : decode prog_17_method_4_code 5 = .ok (.arraylength, 1) := by decide +kernel
theorem d4_6 : decode prog_17_method_4_code 6 = .ok (.iconst 4, 1) := by decide +kernel
theorem d4_7 : decode prog_17_method_4_code 7 = .ok (.idiv, 1) := by decide +kernel
theorem d4_8 : decode prog_17_method_4_code 8 = .ok (.iconst 3, 1) := by decide +kernel
theorem d4_9 : decode prog_17_method_4_code 9 = .ok (.imul, 1) := by decide +kernel
theorem d4_10 : decode prog_17_method_4_code 10 = .ok (.i2l, 1) := by decide +kernel
theorem d4_11 : decode prog_17_method_4_code 11 = .ok (.lcmp, 1) := by decide +kernel
theorem d4_12 : decode prog_17_method_4_code 12 = .ok (.ifCond .gt 7, 3) := by decide +kernel
theorem d4_15 : decode prog_17_method_4_code 15 = .ok (.iconst 1, 1) := by decide +kernel
theorem d4_16 : decode prog_17_method_4_code 16 = .ok (.goto 4, 3) := by decide +kernel
theorem d4_20 : decode prog_17_method_4_code 20 = .ok (.ireturn, 1) := by decide +kernel
theorem pn_4 : plainName "com/example/wheredb/wheredb/storage/MemorySet" = true := by first | (simp [plainName, overriddenIn]; done) | decide +kernel
theorem ef_4 (m : MethodId) (x0 : Addr) (x1 : Int64) : entryFrame m #[(.ref x0), (.long x1)] 3 = mkF m 0 #[.val (.ref x0), .val (.long x1), .second] [] := by first | (simp [entryFrame, mkF, argsToLocals, Value.category]; done) | rfl
def Q4_f (Z : State) (a1 : Addr) (q2 : Int64) (w3 : Addr) (cl_w3 : Cell) (z_w3 : Int32) (h0 : Heap) (n0 : Nat) (v : Option Value) (h : Heap) (L : List Loc) : Prop := v = some (.int (1 : Int32)) ∧ Fr n0 L ∧ h = h0
set_option maxRecDepth 65536 in
set_option maxHeartbeats 40000000 in
theorem rm4_f (l : Launch) (Z : State) (a0 : Array Value) (hw : ∀ d ∈ tables_1, d.before a0 Z = true) (ws : List Jvm.Cond) (a1 : Addr) (q2 : Int64) (w3 : Addr) (cl_w3 : Cell) (z_w3 : Int32) (h0 : Heap) (n0 : Nat) (Z0 : n0 ≤ h0.size) (F_slotHashes_a1 : Fld Z h0 a1 "com/example/wheredb/wheredb/storage/MemorySet" "slotHashes" "[I" (.ref w3)) (Ar_w3 : Arr Z h0 w3 cl_w3 .int) (S_w3 : cl_w3.slots.size = z_w3.toNatClampNeg) (N_w3 : ¬ z_w3 < 0) (hnz7 : ¬ ((4 : Int32) = (0 : Int32))) (hc12 : ¬ ((0 : Int32) < (lcmpW q2 (((z_w3 / (4 : Int32)) * (3 : Int32)).toInt64)))) :
    MetFree l (⟨"com/example/wheredb/wheredb/storage/MemorySet", "hasRoomFor", "(J)Z"⟩ : MethodName) (head1 (Jvm.Cond.code (⟨"com/example/wheredb/wheredb/storage/MemorySet", "hasRoomFor", "(J)Z"⟩ : MethodName) prog_17_method_4_code 3 (some .boolean) :: ws) ({ frames := 0, cells := 0, slots := 0, locals := 0 } : Room)) (fun a U => a = #[(.ref a1), (.long q2)] ∧ Z.Warmed39 U.vm ∧ U.heap = h0) (fun _ _ _ _ _ => True) (fun _ U o U' => ∃ v L, o = .returned v ∧ Q4_f Z a1 q2 w3 cl_w3 z_w3 h0 n0 v U'.heap L ∧ FrameEnd U o U' L ({ frames := 0, cells := 0, slots := 0, locals := 0 } : Room).cells ({ frames := 0, cells := 0, slots := 0, locals := 0 } : Room).slots) := by
  refine MetFree.of_bodySF (plainFor_of_name pn_4) hisR ?_
  intro p e s m args below meth c s₁ Bd hml0 hP hK
  obtain ⟨rfl, hZ, hh⟩ := hP
  have hx := Bd.exec
  have hby := Bd.bytes
  have hml : c.maxLocals = 3 := hml0
  have hown : s.vm.findClass "com/example/wheredb/wheredb/storage/MemorySet" = some m.cls := findClass_of_methodNamed Bd.named
  have hnm := (name_of_methodNamed Bd.named Bd.method).1
  have X0 : Stand p l e ({ frames := 0, cells := 0, slots := 0, locals := 0 } : Room) s m #[(.ref a1), (.long q2)] below meth c s₁ [] 0 0 := Stand.of_body Bd
  have e0 : s₁.heap = h0 := by rw [← hh, Bd.state]; rfl
  have N0 := Fr.nil n0
  have pre0 : ∀ t, Steps p.tables e below (s₁.setTop (mkF m 0 #[.val (.ref a1), .val (.long q2), .second] [])) t → Steps p.tables e below (s₁.setTop (entryFrame m #[(.ref a1), (.long q2)] 3)) t := fun t k => castTop (ef_4 m a1 q2) k
  obtain ⟨T4, X4, e4, st4⟩ := getF X0 hx hZ hown (host := "") (Or.inl (hw _ (List.mem_of_getElem? (i := 17) rfl))) Via.refl e0 F_slotHashes_a1 (g := (mkF m 2 #[.val (.ref a1), .val (.long q2), .second] [(.ref a1), (.long q2)])) rfl rfl (hb hby d4_2)
  obtain ⟨fs, hr, hrun, hended, hW, hsame⟩ := X4.leave (v := some (.int (1 : Int32))) (fun h => by rw [Bd.returns] at h; cases h)
  refine ⟨_, _, pre0 _ ?_, hrun, hended, _, _, rfl, ?_, ⟨_, rfl⟩, hW, hsame.mono (by decide) (by decide)⟩
  · show Steps p.tables e below (s₁.setTop (mkF m 0 #[.val (.ref a1), .val (.long q2), .second] [])) _
    refine XS.lloadN X0.here hx rfl (hb hby d4_0) rfl ?_
    show Steps p.tables e below (s₁.setTop (mkF m 1 #[.val (.ref a1), .val (.long q2), .second] [(.long q2)])) _
    refine XS.aloadN X0.here hx rfl (hb hby d4_1) rfl rfl ?_
    show Steps p.tables e below (s₁.setTop (mkF m 2 #[.val (.ref a1), .val (.long q2), .second] [(.ref a1), (.long q2)])) _
    refine st4 _ ?_
    show Steps p.tables e below (T4.setTop (mkF m 5 #[.val (.ref a1), .val (.long q2), .second] [(.ref w3), (.long q2)])) _
    refine X4.arraylength hx (by rw [e4]; exact Ar_w3.1) (State.isArrayOf_alike hZ.alike Ar_w3.2.1) (g := (mkF m 5 #[.val (.ref a1), .val (.long q2), .second] [(.ref w3), (.long q2)])) rfl rfl (hb hby d4_5) _ ?_
    rw [len_of S_w3 N_w3]
    show Steps p.tables e below (T4.setTop (mkF m 6 #[.val (.ref a1), .val (.long q2), .second] [(.int z_w3), (.long q2)])) _
    refine XS.iconst X4.here hx rfl (hb hby d4_6) ?_
    show Steps p.tables e below (T4.setTop (mkF m 7 #[.val (.ref a1), .val (.long q2), .second] [(.int (4 : Int32)), (.int z_w3), (.long q2)])) _
    refine XS.idiv X4.here hx rfl (hb hby d4_7) rfl hnz7 ?_
    show Steps p.tables e below (T4.setTop (mkF m 8 #[.val (.ref a1), .val (.long q2), .second] [(.int (z_w3 / (4 : Int32))), (.long q2)])) _
    refine XS.iconst X4.here hx rfl (hb hby d4_8) ?_
    show Steps p.tables e below (T4.setTop (mkF m 9 #[.val (.ref a1), .val (.long q2), .second] [(.int (3 : Int32)), (.int (z_w3 / (4 : Int32))), (.long q2)])) _
    refine XS.imul X4.here hx rfl (hb hby d4_9) rfl ?_
    show Steps p.tables e below (T4.setTop (mkF m 10 #[.val (.ref a1), .val (.long q2), .second] [(.int ((z_w3 / (4 : Int32)) * (3 : Int32))), (.long q2)])) _
    refine XS.i2l X4.here hx rfl (hb hby d4_10) rfl ?_
    show Steps p.tables e below (T4.setTop (mkF m 11 #[.val (.ref a1), .val (.long q2), .second] [(.long (((z_w3 / (4 : Int32)) * (3 : Int32)).toInt64)), (.long q2)])) _
    refine XS.lcmp X4.here hx rfl (hb hby d4_11) rfl ?_
    show Steps p.tables e below (T4.setTop (mkF m 12 #[.val (.ref a1), .val (.long q2), .second] [(.int (lcmpW q2 (((z_w3 / (4 : Int32)) * (3 : Int32)).toInt64)))])) _
    refine XS.ifNo X4.here hx rfl (hb hby d4_12) rfl ((if0 _ _).trans (flt hc12).2.2.1) ?_
    show Steps p.tables e below (T4.setTop (mkF m 15 #[.val (.ref a1), .val (.long q2), .second] [])) _
    refine XS.iconst X4.here hx rfl (hb hby d4_15) ?_
    show Steps p.tables e below (T4.setTop (mkF m 16 #[.val (.ref a1), .val (.long q2), .second] [(.int (1 : Int32))])) _
    refine XS.goto X4.here hx rfl (pc0 := 16) (pc' := 20) rfl (hb hby d4_16) (by decide) (by decide) ?_
    show Steps p.tables e below (T4.setTop (mkF m 20 #[.val (.ref a1), .val (.long q2), .second] [(.int (1 : Int32))])) _
    exact retN X4 hx (t := .boolean) Bd.returns (by simp) (hb hby d4_20) hr
  · show Q4_f Z a1 q2 w3 cl_w3 z_w3 h0 n0 _ T4.heap _
    rw [e4]
    exact ⟨rfl, N0, rfl⟩
theorem d4_19 : decode prog_17_method_4_code 19 = .ok (.iconst 0, 1) := by decide +kernel
def Q4_t (Z : State) (a1 : Addr) (q2 : Int64) (w3 : Addr) (cl_w3 : Cell) (z_w3 : Int32) (h0 : Heap) (n0 : Nat) (v : Option Value) (h : Heap) (L : List Loc) : Prop := v = some (.int (0 : Int32)) ∧ Fr n0 L ∧ h = h0
set_option maxRecDepth 65536 in
set_option maxHeartbeats 40000000 in
theorem rm4_t (l : Launch) (Z : State) (a0 : Array Value) (hw : ∀ d ∈ tables_1, d.before a0 Z = true) (ws : List Jvm.Cond) (a1 : Addr) (q2 : Int64) (w3 : Addr) (cl_w3 : Cell) (z_w3 : Int32) (h0 : Heap) (n0 : Nat) (Z0 : n0 ≤ h0.size) (F_slotHashes_a1 : Fld Z h0 a1 "com/example/wheredb/wheredb/storage/MemorySet" "slotHashes" "[I" (.ref w3)) (Ar_w3 : Arr Z h0 w3 cl_w3 .int) (S_w3 : cl_w3.slots.size = z_w3.toNatClampNeg) (N_w3 : ¬ z_w3 < 0) (hnz7 : ¬ ((4 : Int32) = (0 : Int32))) (hc12 : (0 : Int32) < (lcmpW q2 (((z_w3 / (4 : Int32)) * (3 : Int32)).toInt64))) :
    MetFree l (⟨"com/example/wheredb/wheredb/storage/MemorySet", "hasRoomFor", "(J)Z"⟩ : MethodName) (head1 (Jvm.Cond.code (⟨"com/example/wheredb/wheredb/storage/MemorySet", "hasRoomFor", "(J)Z"⟩ : MethodName) prog_17_method_4_code 3 (some .boolean) :: ws) ({ frames := 0, cells := 0, slots := 0, locals := 0 } : Room)) (fun a U => a = #[(.ref a1), (.long q2)] ∧ Z.Warmed39 U.vm ∧ U.heap = h0) (fun _ _ _ _ _ => True) (fun _ U o U' => ∃ v L, o = .returned v ∧ Q4_t Z a1 q2 w3 cl_w3 z_w3 h0 n0 v U'.heap L ∧ FrameEnd U o U' L ({ frames := 0, cells := 0, slots := 0, locals := 0 } : Room).cells ({ frames := 0, cells := 0, slots := 0, locals := 0 } : Room).slots) := by
  refine MetFree.of_bodySF (plainFor_of_name pn_4) hisR ?_
  intro p e s m args below meth c s₁ Bd hml0 hP hK
  obtain ⟨rfl, hZ, hh⟩ := hP
  have hx := Bd.exec
  have hby := Bd.bytes
  have hml : c.maxLocals = 3 := hml0
  have hown : s.vm.findClass "com/example/wheredb/wheredb/storage/MemorySet" = some m.cls := findClass_of_methodNamed Bd.named
  have hnm := (name_of_methodNamed Bd.named Bd.method).1
  have X0 : Stand p l e ({ frames := 0, cells := 0, slots := 0, locals := 0 } : Room) s m #[(.ref a1), (.long q2)] below meth c s₁ [] 0 0 := Stand.of_body Bd
  have e0 : s₁.heap = h0 := by rw [← hh, Bd.state]; rfl
  have N0 := Fr.nil n0
  have pre0 : ∀ t, Steps p.tables e below (s₁.setTop (mkF m 0 #[.val (.ref a1), .val (.long q2), .second] [])) t → Steps p.tables e below (s₁.setTop (entryFrame m #[(.ref a1), (.long q2)] 3)) t := fun t k => castTop (ef_4 m a1 q2) k
  obtain ⟨T4, X4, e4, st4⟩ := getF X0 hx hZ hown (host := "") (Or.inl (hw _ (List.mem_of_getElem? (i := 17) rfl))) Via.refl e0 F_slotHashes_a1 (g := (mkF m 2 #[.val (.ref a1), .val (.long q2), .second] [(.ref a1), (.long q2)])) rfl rfl (hb hby d4_2)
  obtain ⟨fs, hr, hrun, hended, hW, hsame⟩ := X4.leave (v := some (.int (0 : Int32))) (fun h => by rw [Bd.returns] at h; cases h)
  refine ⟨_, _, pre0 _ ?_, hrun, hended, _, _, rfl, ?_, ⟨_, rfl⟩, hW, hsame.mono (by decide) (by decide)⟩
  · show Steps p.tables e below (s₁.setTop (mkF m 0 #[.val (.ref a1), .val (.long q2), .second] [])) _
    refine XS.lloadN X0.here hx rfl (hb hby d4_0) rfl ?_
    show Steps p.tables e below (s₁.setTop (mkF m 1 #[.val (.ref a1), .val (.long q2), .second] [(.long q2)])) _
    refine XS.aloadN X0.here hx rfl (hb hby d4_1) rfl rfl ?_
    show Steps p.tables e below (s₁.setTop (mkF m 2 #[.val (.ref a1), .val (.long q2), .second] [(.ref a1), (.long q2)])) _
    refine st4 _ ?_
    show Steps p.tables e below (T4.setTop (mkF m 5 #[.val (.ref a1), .val (.long q2), .second] [(.ref w3), (.long q2)])) _
    refine X4.arraylength hx (by rw [e4]; exact Ar_w3.1) (State.isArrayOf_alike hZ.alike Ar_w3.2.1) (g := (mkF m 5 #[.val (.ref a1), .val (.long q2), .second] [(.ref w3), (.long q2)])) rfl rfl (hb hby d4_5) _ ?_
    rw [len_of S_w3 N_w3]
    show Steps p.tables e below (T4.setTop (mkF m 6 #[.val (.ref a1), .val (.long q2), .second] [(.int z_w3), (.long q2)])) _
    refine XS.iconst X4.here hx rfl (hb hby d4_6) ?_
    show Steps p.tables e below (T4.setTop (mkF m 7 #[.val (.ref a1), .val (.long q2), .second] [(.int (4 : Int32)), (.int z_w3), (.long q2)])) _
    refine XS.idiv X4.here hx rfl (hb hby d4_7) rfl hnz7 ?_
    show Steps p.tables e below (T4.setTop (mkF m 8 #[.val (.ref a1), .val (.long q2), .second] [(.int (z_w3 / (4 : Int32))), (.long q2)])) _
    refine XS.iconst X4.here hx rfl (hb hby d4_8) ?_
    show Steps p.tables e below (T4.setTop (mkF m 9 #[.val (.ref a1), .val (.long q2), .second] [(.int (3 : Int32)), (.int (z_w3 / (4 : Int32))), (.long q2)])) _
    refine XS.imul X4.here hx rfl (hb hby d4_9) rfl ?_
    show Steps p.tables e below (T4.setTop (mkF m 10 #[.val (.ref a1), .val (.long q2), .second] [(.int ((z_w3 / (4 : Int32)) * (3 : Int32))), (.long q2)])) _
    refine XS.i2l X4.here hx rfl (hb hby d4_10) rfl ?_
    show Steps p.tables e below (T4.setTop (mkF m 11 #[.val (.ref a1), .val (.long q2), .second] [(.long (((z_w3 / (4 : Int32)) * (3 : Int32)).toInt64)), (.long q2)])) _
    refine XS.lcmp X4.here hx rfl (hb hby d4_11) rfl ?_
    show Steps p.tables e below (T4.setTop (mkF m 12 #[.val (.ref a1), .val (.long q2), .second] [(.int (lcmpW q2 (((z_w3 / (4 : Int32)) * (3 : Int32)).toInt64)))])) _
    refine XS.ifYes X4.here hx rfl (pc0 := 12) (pc' := 19) rfl (hb hby d4_12) rfl ((if0 _ _).trans (tlt hc12).2.2.1) (by decide) (by decide) ?_
    show Steps p.tables e below (T4.setTop (mkF m 19 #[.val (.ref a1), .val (.long q2), .second] [])) _
    refine XS.iconst X4.here hx rfl (hb hby d4_19) ?_
    show Steps p.tables e below (T4.setTop (mkF m 20 #[.val (.ref a1), .val (.long q2), .second] [(.int (0 : Int32))])) _
    exact retN X4 hx (t := .boolean) Bd.returns (by simp) (hb hby d4_20) hr
  · show Q4_t Z a1 q2 w3 cl_w3 z_w3 h0 n0 _ T4.heap _
    rw [e4]
    exact ⟨rfl, N0, rfl⟩
def Qz (h0 : Heap) (n0 : Nat) (v : Option Value) (h : Heap) (L : List Loc) : Prop := v = some (.int (1 : Int32)) ∧ Fr n0 L
theorem pn_0 : plainName "com/example/wheredb/wheredb/storage/MemorySetHasRoomForPinLaw" = true := by first | (simp [plainName, overriddenIn]; done) | decide +kernel
theorem pd_0_0 : parseMethodDescriptor "()V" = some ⟨[], none⟩ := by decide +kernel
theorem pd_0_3 : parseMethodDescriptor "(J)V" = some ⟨[.long], none⟩ := by decide +kernel
theorem pd_0_2 : parseMethodDescriptor "(J)Z" = some ⟨[.long], some .boolean⟩ := by decide +kernel
theorem ef_0 (m : MethodId) (x0 : Int64) (x1 : Int32) (x2 : Int32) : entryFrame m #[(.long x0), (.int x1), (.int x2)] maxLocals = mkF m 0 #[.val (.long x0), .second, .val (.int x1), .val (.int x2), .unset, .unset, .unset, .unset, .unset, .unset, .unset, .unset, .unset] [] := by first | (simp [entryFrame, mkF, argsToLocals, Value.category, maxLocals]; done) | rfl
set_option maxRecDepth 65536 in
set_option maxHeartbeats 40000000 in
theorem rm0_ffffff (l : Launch) (Z : State) (a0 : Array Value) (hw : ∀ d ∈ tables_1, d.before a0 Z = true) (ws : List Jvm.Cond) (q1 : Int64) (p2 : Int32) (p3 : Int32) (zz : Int32) (h0 : Heap) (n0 : Nat) (Z0 : n0 ≤ h0.size) (hq : (((6 : Int64) <<< ((p2 &&& (7 : Int32)) &&& 0x3f).toInt64) = (6 : Int64) ∧ zz = (8 : Int32)) ∨ (((6 : Int64) <<< ((p2 &&& (7 : Int32)) &&& 0x3f).toInt64) = (12 : Int64) ∧ zz = (16 : Int32)) ∨ (((6 : Int64) <<< ((p2 &&& (7 : Int32)) &&& 0x3f).toInt64) = (24 : Int64) ∧ zz = (32 : Int32)) ∨ (((6 : Int64) <<< ((p2 &&& (7 : Int32)) &&& 0x3f).toInt64) = (48 : Int64) ∧ zz = (64 : Int32)) ∨ (((6 : Int64) <<< ((p2 &&& (7 : Int32)) &&& 0x3f).toInt64) = (96 : Int64) ∧ zz = (128 : Int32)) ∨ (((6 : Int64) <<< ((p2 &&& (7 : Int32)) &&& 0x3f).toInt64) = (192 : Int64) ∧ zz = (256 : Int32)) ∨ (((6 : Int64) <<< ((p2 &&& (7 : Int32)) &&& 0x3f).toInt64) = (384 : Int64) ∧ zz = (512 : Int32)) ∨ (((6 : Int64) <<< ((p2 &&& (7 : Int32)) &&& 0x3f).toInt64) = (768 : Int64) ∧ zz = (1024 : Int32))) (hcap : (((zz / (4 : Int32)) * (3 : Int32)).toInt64) = ((6 : Int64) <<< ((p2 &&& (7 : Int32)) &&& 0x3f).toInt64)) (hc9 : ¬ ((p3 &&& (2 : Int32)) = (0 : Int32))) (hc22 : ¬ ((p3 &&& (1 : Int32)) = (0 : Int32))) (hc48 : ¬ ((1 : Int32) = (0 : Int32))) (hc72 : ¬ ((1 : Int32) = (0 : Int32))) (hc94 : ¬ ((0 : Int32) < (lcmpW q1 ((6 : Int64) <<< ((p2 &&& (7 : Int32)) &&& 0x3f).toInt64)))) :
    MetFree l x (head1 (Jvm.Cond.code x code maxLocals ret :: ws) room_1) (fun a U => a = #[(.long q1), (.int p2), (.int p3)] ∧ Z.Warmed39 U.vm ∧ U.heap = h0) (fun _ _ _ _ _ => True) (fun _ U o U' => ∃ v L, o = .returned v ∧ Qz  h0 n0 v U'.heap L ∧ FrameEnd U o U' L room_1.cells room_1.slots) := by
  refine MetFree.of_bodySF (plainFor_of_name pn_0) hisR ?_
  intro p e s m args below meth c s₁ Bd hml0 hP hK
  obtain ⟨rfl, hZ, hh⟩ := hP
  have hx := Bd.exec
  have hby := Bd.bytes
  have hml : c.maxLocals = 13 := hml0
  have hown : s.vm.findClass "com/example/wheredb/wheredb/storage/MemorySetHasRoomForPinLaw" = some m.cls := findClass_of_methodNamed Bd.named
  have hnm := (name_of_methodNamed Bd.named Bd.method).1
  have X0 : Stand p l e room_1 s m #[(.long q1), (.int p2), (.int p3)] below meth c s₁ [] 0 0 := Stand.of_body Bd
  have e0 : s₁.heap = h0 := by rw [← hh, Bd.state]; rfl
  have N0 := Fr.nil n0
  have pre0 : ∀ t, Steps p.tables e below (s₁.setTop (mkF m 0 #[.val (.long q1), .second, .val (.int p2), .val (.int p3), .unset, .unset, .unset, .unset, .unset, .unset, .unset, .unset, .unset] [])) t → Steps p.tables e below (s₁.setTop (entryFrame m #[(.long q1), (.int p2), (.int p3)] maxLocals)) t := fun t k => castTop (ef_0 m q1 p2 p3) k
  obtain ⟨T4, h4, X4, e4, E4, A4, D4, -, st4⟩ := newO X0 hx hZ hown (hw _ (List.mem_of_getElem? (i := 0) rfl)) (hw _ (List.mem_of_getElem? (i := 1) rfl)) (hw _ (List.mem_of_getElem? (i := 2) rfl)) e0 (g := (mkF m 32 #[.val (.long q1), .second, .val (.int p2), .val (.int p3), .val (.int (p2 &&& (7 : Int32))), .val (.int (1 : Int32)), .val (.int (1 : Int32)), .unset, .unset, .unset, .unset, .unset, .unset] [])) rfl (hb hby at_32) (by decide) (by decide)
  obtain ⟨b4, g4⟩ : ∃ z, z = h0.size := ⟨_, rfl⟩
  rw [← g4] at A4 D4 st4
  have F_chunks_b4 : Fld Z h4 b4 "com/example/wheredb/wheredb/storage/MemorySet" "chunks" "[Lcom/example/wheredb/wheredb/storage/MemorySet$Chunk;" .null := D4 (Or.inl (hw _ (List.mem_of_getElem? (i := 12) rfl))) (ty := (.array (.object "com/example/wheredb/wheredb/storage/MemorySet$Chunk"))) (by decide)
  have F_lastCells_b4 : Fld Z h4 b4 "com/example/wheredb/wheredb/storage/MemorySet" "lastCells" "[J" .null := D4 (Or.inl (hw _ (List.mem_of_getElem? (i := 15) rfl))) (ty := (.array .long)) (by decide)
  have F_slotHashes_b4 : Fld Z h4 b4 "com/example/wheredb/wheredb/storage/MemorySet" "slotHashes" "[I" .null := D4 (Or.inl (hw _ (List.mem_of_getElem? (i := 18) rfl))) (ty := (.array .int)) (by decide)
  have F_slotCells_b4 : Fld Z h4 b4 "com/example/wheredb/wheredb/storage/MemorySet" "slotCells" "[J" .null := D4 (Or.inl (hw _ (List.mem_of_getElem? (i := 20) rfl))) (ty := (.array .long)) (by decide)
  have F_slotShift_b4 : Fld Z h4 b4 "com/example/wheredb/wheredb/storage/MemorySet" "slotShift" "I" (.int (0 : Int32)) := D4 (Or.inl (hw _ (List.mem_of_getElem? (i := 27) rfl))) (ty := .int) (by decide)
  have E_b4 := A4
  have g_b4 : n0 ≤ b4 := Nat.le_trans Z0 (Nat.le_of_eq g4.symm)
  have sz_b4 : h0.size ≤ b4 := (Nat.le_trans (Keep.refl h0 []).1 (Nat.le_of_eq g4.symm))
  have K4 : Keep h0 h4 [] := (Keep.refl h0 []).ext E4
  obtain ⟨_, _, ⟨T5, L5, k5, n5⟩, -, X5, ⟨Lc5, hQ5, l5, y5, z5⟩, st5⟩ := X4.specialBack hx (y := (⟨"com/example/wheredb/wheredb/storage/MemorySet", "<init>", "()V"⟩ : MethodName)) rfl hown (mvT hZ (hw _ (List.mem_of_getElem? (i := 3) rfl))) (mvT hZ (hw _ (List.mem_of_getElem? (i := 4) rfl))) (mvT hZ (hw _ (List.mem_of_getElem? (i := 5) rfl))) (by decide) (backOf (W := 1) (rm1 l Z a0 hw [] b4 .null .null .null .null (.int (0 : Int32)) h4 n0 (Nat.le_trans Z0 E4.1) E_b4 F_chunks_b4 g_b4 F_lastCells_b4 F_slotHashes_b4 F_slotCells_b4 F_slotShift_b4) hZ (hw _ (List.mem_of_getElem? (i := 5) rfl)) (hw _ (List.mem_of_getElem? (i := 2) rfl)) (by decide) (by decide)) (g := (mkF m 36 #[.val (.long q1), .second, .val (.int p2), .val (.int p3), .val (.int (p2 &&& (7 : Int32))), .val (.int (1 : Int32)), .val (.int (1 : Int32)), .unset, .unset, .unset, .unset, .unset, .unset] [(.ref b4), (.ref b4)])) rfl (by rw [hml]; rfl) (Steps.refl _) (a := b4) (argsL := []) (rest := [(.ref b4)]) (lenOf pd_0_0 rfl) rfl (by show 2 * 0 + _ ≤ _; exact Nat.le_of_eq rfl) (hb hby at_36) (fun _ _ => ⟨rfl, e4, (by decide : 1 + 4 ≤ _), (by decide : 7 + 24 ≤ _)⟩)
  dsimp only [Pt.U, Pt.locs, Pt.cells, Pt.slots] at X5 l5 y5 z5 st5 hQ5
  subst l5 y5 z5
  obtain ⟨rfl, N5q, Kc5, Ec5, bh5, bc5, kb5, rs5, Fh5, Fs5, Ft5, Vb5⟩ := hQ5
  have N5 := Fr.app N0 N5q
  have K5 : Keep h0 T5.heap [] := K4.trans Kc5 (allS (Or.inr sz_b4) all0)
  obtain ⟨cq6, kq6, q6a, q6b, q6c⟩ := isOf hZ rfl Ec5
  obtain ⟨_, _, ⟨T6, L6, k6, n6⟩, -, X6, ⟨Lc6, hQ6, l6, y6, z6⟩, st6⟩ := X5.virtualBack hx (y := (⟨"com/example/wheredb/wheredb/storage/MemorySet", "reserve", "(J)V"⟩ : MethodName)) (z := (⟨"com/example/wheredb/wheredb/storage/MemorySet", "reserve", "(J)V"⟩ : MethodName)) hown (mvT hZ (hw _ (List.mem_of_getElem? (i := 34) rfl))) (mvT hZ (hw _ (List.mem_of_getElem? (i := 35) rfl))) (notFace_of_selects (args := #[]) (mvT hZ (hw _ (List.mem_of_getElem? (i := 37) rfl)))) (mvT hZ (hw _ (List.mem_of_getElem? (i := 37) rfl))) (mvT hZ (hw _ (List.mem_of_getElem? (i := 36) rfl))) (by decide) (backOf (W := 0) (rm5 l Z a0 hw [] b4 ((6 : Int64) <<< ((p2 &&& (7 : Int32)) &&& 0x3f).toInt64) bh5 kb5 bc5 rs5 zz T5.heap n0 (Nat.le_trans (Nat.le_trans Z0 E4.1) Kc5.1) Fh5 Ec5 Fs5 Ft5 g_b4 Vb5 hq) hZ (hw _ (List.mem_of_getElem? (i := 38) rfl)) (hw _ (List.mem_of_getElem? (i := 2) rfl)) (by decide) (by decide)) q6a q6c (g := (mkF m 59 #[.val (.long q1), .second, .val (.int p2), .val (.int p3), .val (.int (p2 &&& (7 : Int32))), .val (.int (1 : Int32)), .val (.int (1 : Int32)), .val (.ref b4), .val (.long (6 : Int64)), .second, .unset, .unset, .unset] [(.long ((6 : Int64) <<< ((p2 &&& (7 : Int32)) &&& 0x3f).toInt64)), (.ref b4)])) rfl (by rw [hml]; rfl) (Steps.refl _) (argsL := [(.long ((6 : Int64) <<< ((p2 &&& (7 : Int32)) &&& 0x3f).toInt64))]) (rest := []) (lenOf pd_0_3 rfl) rfl (by show 2 * 0 + _ ≤ _; exact Nat.le_of_eq rfl) (hb hby at_59) (fun _ _ => ⟨rfl, rfl, (by decide : 5 + 2 ≤ _), (by decide : 31 + 2048 ≤ _)⟩)
  dsimp only [Pt.U, Pt.locs, Pt.cells, Pt.slots] at X6 l6 y6 z6 st6 hQ6
  subst l6 y6 z6
  obtain ⟨rfl, N6q, Kc6, Ec6, bh6, kb6, Fh6, Vb6⟩ := hQ6
  have N6 := Fr.app N5 N6q
  have K6 : Keep h0 T6.heap [] := K5.trans Kc6 (allS (Or.inr sz_b4) all0)
  obtain ⟨cl_c7, Ar_c7, -, S_c7, N_c7, -, -⟩ := Vb6
  obtain ⟨cq7, kq7, q7a, q7b, q7c⟩ := isOf hZ rfl Ec6
  obtain ⟨_, _, ⟨T7, L7, k7, n7⟩, -, X7, ⟨Lc7, hQ7, l7, y7, z7⟩, st7⟩ := X6.virtualBack hx (y := (⟨"com/example/wheredb/wheredb/storage/MemorySet", "hasRoomFor", "(J)Z"⟩ : MethodName)) (z := (⟨"com/example/wheredb/wheredb/storage/MemorySet", "hasRoomFor", "(J)Z"⟩ : MethodName)) hown (mvT hZ (hw _ (List.mem_of_getElem? (i := 29) rfl))) (mvT hZ (hw _ (List.mem_of_getElem? (i := 30) rfl))) (notFace_of_selects (args := #[]) (mvT hZ (hw _ (List.mem_of_getElem? (i := 32) rfl)))) (mvT hZ (hw _ (List.mem_of_getElem? (i := 32) rfl))) (mvT hZ (hw _ (List.mem_of_getElem? (i := 31) rfl))) (by decide) (backOf (W := 0) (rm4_f l Z a0 hw [] b4 q1 bh6 cl_c7 zz T6.heap n0 (Nat.le_trans (Nat.le_trans (Nat.le_trans Z0 E4.1) Kc5.1) Kc6.1) Fh6 Ar_c7 S_c7 N_c7 (by decide) (by rw [hcap]; exact hc94)) hZ (hw _ (List.mem_of_getElem? (i := 33) rfl)) (hw _ (List.mem_of_getElem? (i := 2) rfl)) (by decide) (by decide)) q7a q7c (g := (mkF m 108 #[.val (.long q1), .second, .val (.int p2), .val (.int p3), .val (.int (p2 &&& (7 : Int32))), .val (.int (1 : Int32)), .val (.int (1 : Int32)), .val (.ref b4), .val (.long ((6 : Int64) <<< ((p2 &&& (7 : Int32)) &&& 0x3f).toInt64)), .second, .val (.long q1), .second, .val (.int (1 : Int32))] [(.long q1), (.ref b4)])) rfl (by rw [hml]; rfl) (Steps.refl _) (argsL := [(.long q1)]) (rest := []) (lenOf pd_0_2 rfl) rfl (by show 2 * 0 + _ ≤ _; exact Nat.le_of_eq rfl) (hb hby at_108) (fun _ _ => ⟨rfl, rfl, (by decide : 7 + 0 ≤ _), (by decide : 2079 + 0 ≤ _)⟩)
  dsimp only [Pt.U, Pt.locs, Pt.cells, Pt.slots] at X7 l7 y7 z7 st7 hQ7
  subst l7 y7 z7
  obtain ⟨rfl, N7q, hh7⟩ := hQ7
  have N7 := Fr.app N6 N7q
  obtain ⟨fs, hr, hrun, hended, hW, hsame⟩ := X7.leave (v := some (.int (1 : Int32))) (fun h => by rw [Bd.returns] at h; cases h)
  refine ⟨_, _, pre0 _ ?_, hrun, hended, _, _, rfl, ?_, ⟨_, rfl⟩, hW, hsame.mono (by decide) (by decide)⟩
  · show Steps p.tables e below (s₁.setTop (mkF m 0 #[.val (.long q1), .second, .val (.int p2), .val (.int p3), .unset, .unset, .unset, .unset, .unset, .unset, .unset, .unset, .unset] [])) _
    refine XS.iloadN X0.here hx rfl (hb hby at_0) rfl ?_
    show Steps p.tables e below (s₁.setTop (mkF m 1 #[.val (.long q1), .second, .val (.int p2), .val (.int p3), .unset, .unset, .unset, .unset, .unset, .unset, .unset, .unset, .unset] [(.int p2)])) _
    refine XS.bipush X0.here hx rfl (hb hby at_1) ?_
    show Steps p.tables e below (s₁.setTop (mkF m 3 #[.val (.long q1), .second, .val (.int p2), .val (.int p3), .unset, .unset, .unset, .unset, .unset, .unset, .unset, .unset, .unset] [(.int (7 : Int32)), (.int p2)])) _
    refine XS.iand X0.here hx rfl (hb hby at_3) rfl ?_
    show Steps p.tables e below (s₁.setTop (mkF m 4 #[.val (.long q1), .second, .val (.int p2), .val (.int p3), .unset, .unset, .unset, .unset, .unset, .unset, .unset, .unset, .unset] [(.int (p2 &&& (7 : Int32)))])) _
    refine XS.istore X0.here hx rfl (hb hby at_4) rfl (l' := #[.val (.long q1), .second, .val (.int p2), .val (.int p3), .val (.int (p2 &&& (7 : Int32))), .unset, .unset, .unset, .unset, .unset, .unset, .unset, .unset]) rfl ?_
    show Steps p.tables e below (s₁.setTop (mkF m 6 #[.val (.long q1), .second, .val (.int p2), .val (.int p3), .val (.int (p2 &&& (7 : Int32))), .unset, .unset, .unset, .unset, .unset, .unset, .unset, .unset] [])) _
    refine XS.iloadN X0.here hx rfl (hb hby at_6) rfl ?_
    show Steps p.tables e below (s₁.setTop (mkF m 7 #[.val (.long q1), .second, .val (.int p2), .val (.int p3), .val (.int (p2 &&& (7 : Int32))), .unset, .unset, .unset, .unset, .unset, .unset, .unset, .unset] [(.int p3)])) _
    refine XS.iconst X0.here hx rfl (hb hby at_7) ?_
    show Steps p.tables e below (s₁.setTop (mkF m 8 #[.val (.long q1), .second, .val (.int p2), .val (.int p3), .val (.int (p2 &&& (7 : Int32))), .unset, .unset, .unset, .unset, .unset, .unset, .unset, .unset] [(.int (2 : Int32)), (.int p3)])) _
    refine XS.iand X0.here hx rfl (hb hby at_8) rfl ?_
    show Steps p.tables e below (s₁.setTop (mkF m 9 #[.val (.long q1), .second, .val (.int p2), .val (.int p3), .val (.int (p2 &&& (7 : Int32))), .unset, .unset, .unset, .unset, .unset, .unset, .unset, .unset] [(.int (p3 &&& (2 : Int32)))])) _
    refine XS.ifNo X0.here hx rfl (hb hby at_9) rfl ((if0 _ _).trans (feq hc9).1) ?_
    show Steps p.tables e below (s₁.setTop (mkF m 12 #[.val (.long q1), .second, .val (.int p2), .val (.int p3), .val (.int (p2 &&& (7 : Int32))), .unset, .unset, .unset, .unset, .unset, .unset, .unset, .unset] [])) _
    refine XS.iconst X0.here hx rfl (hb hby at_12) ?_
    show Steps p.tables e below (s₁.setTop (mkF m 13 #[.val (.long q1), .second, .val (.int p2), .val (.int p3), .val (.int (p2 &&& (7 : Int32))), .unset, .unset, .unset, .unset, .unset, .unset, .unset, .unset] [(.int (1 : Int32))])) _
    refine XS.goto X0.here hx rfl (pc0 := 13) (pc' := 17) rfl (hb hby at_13) (by decide) (by decide) ?_
    show Steps p.tables e below (s₁.setTop (mkF m 17 #[.val (.long q1), .second, .val (.int p2), .val (.int p3), .val (.int (p2 &&& (7 : Int32))), .unset, .unset, .unset, .unset, .unset, .unset, .unset, .unset] [(.int (1 : Int32))])) _
    refine XS.istore X0.here hx rfl (hb hby at_17) rfl (l' := #[.val (.long q1), .second, .val (.int p2), .val (.int p3), .val (.int (p2 &&& (7 : Int32))), .val (.int (1 : Int32)), .unset, .unset, .unset, .unset, .unset, .unset, .unset]) rfl ?_
    show Steps p.tables e below (s₁.setTop (mkF m 19 #[.val (.long q1), .second, .val (.int p2), .val (.int p3), .val (.int (p2 &&& (7 : Int32))), .val (.int (1 : Int32)), .unset, .unset, .unset, .unset, .unset, .unset, .unset] [])) _
    refine XS.iloadN X0.here hx rfl (hb hby at_19) rfl ?_
    show Steps p.tables e below (s₁.setTop (mkF m 20 #[.val (.long q1), .second, .val (.int p2), .val (.int p3), .val (.int (p2 &&& (7 : Int32))), .val (.int (1 : Int32)), .unset, .unset, .unset, .unset, .unset, .unset, .unset] [(.int p3)])) _
    refine XS.iconst X0.here hx rfl (hb hby at_20) ?_
    show Steps p.tables e below (s₁.setTop (mkF m 21 #[.val (.long q1), .second, .val (.int p2), .val (.int p3), .val (.int (p2 &&& (7 : Int32))), .val (.int (1 : Int32)), .unset, .unset, .unset, .unset, .unset, .unset, .unset] [(.int (1 : Int32)), (.int p3)])) _
    refine XS.iand X0.here hx rfl (hb hby at_21) rfl ?_
    show Steps p.tables e below (s₁.setTop (mkF m 22 #[.val (.long q1), .second, .val (.int p2), .val (.int p3), .val (.int (p2 &&& (7 : Int32))), .val (.int (1 : Int32)), .unset, .unset, .unset, .unset, .unset, .unset, .unset] [(.int (p3 &&& (1 : Int32)))])) _
    refine XS.ifNo X0.here hx rfl (hb hby at_22) rfl ((if0 _ _).trans (feq hc22).1) ?_
    show Steps p.tables e below (s₁.setTop (mkF m 25 #[.val (.long q1), .second, .val (.int p2), .val (.int p3), .val (.int (p2 &&& (7 : Int32))), .val (.int (1 : Int32)), .unset, .unset, .unset, .unset, .unset, .unset, .unset] [])) _
    refine XS.iconst X0.here hx rfl (hb hby at_25) ?_
    show Steps p.tables e below (s₁.setTop (mkF m 26 #[.val (.long q1), .second, .val (.int p2), .val (.int p3), .val (.int (p2 &&& (7 : Int32))), .val (.int (1 : Int32)), .unset, .unset, .unset, .unset, .unset, .unset, .unset] [(.int (1 : Int32))])) _
    refine XS.goto X0.here hx rfl (pc0 := 26) (pc' := 30) rfl (hb hby at_26) (by decide) (by decide) ?_
    show Steps p.tables e below (s₁.setTop (mkF m 30 #[.val (.long q1), .second, .val (.int p2), .val (.int p3), .val (.int (p2 &&& (7 : Int32))), .val (.int (1 : Int32)), .unset, .unset, .unset, .unset, .unset, .unset, .unset] [(.int (1 : Int32))])) _
    refine XS.istore X0.here hx rfl (hb hby at_30) rfl (l' := #[.val (.long q1), .second, .val (.int p2), .val (.int p3), .val (.int (p2 &&& (7 : Int32))), .val (.int (1 : Int32)), .val (.int (1 : Int32)), .unset, .unset, .unset, .unset, .unset, .unset]) rfl ?_
    show Steps p.tables e below (s₁.setTop (mkF m 32 #[.val (.long q1), .second, .val (.int p2), .val (.int p3), .val (.int (p2 &&& (7 : Int32))), .val (.int (1 : Int32)), .val (.int (1 : Int32)), .unset, .unset, .unset, .unset, .unset, .unset] [])) _
    refine st4 _ ?_
    show Steps p.tables e below (T4.setTop (mkF m 35 #[.val (.long q1), .second, .val (.int p2), .val (.int p3), .val (.int (p2 &&& (7 : Int32))), .val (.int (1 : Int32)), .val (.int (1 : Int32)), .unset, .unset, .unset, .unset, .unset, .unset] [(.ref b4)])) _
    refine XS.dup X4.here hx rfl (hb hby at_35) rfl rfl ?_
    show Steps p.tables e below (T4.setTop (mkF m 36 #[.val (.long q1), .second, .val (.int p2), .val (.int p3), .val (.int (p2 &&& (7 : Int32))), .val (.int (1 : Int32)), .val (.int (1 : Int32)), .unset, .unset, .unset, .unset, .unset, .unset] [(.ref b4), (.ref b4)])) _
    refine st5.trans ?_
    show Steps p.tables e below (T5.setTop (mkF m 39 #[.val (.long q1), .second, .val (.int p2), .val (.int p3), .val (.int (p2 &&& (7 : Int32))), .val (.int (1 : Int32)), .val (.int (1 : Int32)), .unset, .unset, .unset, .unset, .unset, .unset] [(.ref b4)])) _
    refine XS.astore X5.here hx rfl (hb hby at_39) rfl rfl (l' := #[.val (.long q1), .second, .val (.int p2), .val (.int p3), .val (.int (p2 &&& (7 : Int32))), .val (.int (1 : Int32)), .val (.int (1 : Int32)), .val (.ref b4), .unset, .unset, .unset, .unset, .unset]) rfl ?_
    show Steps p.tables e below (T5.setTop (mkF m 41 #[.val (.long q1), .second, .val (.int p2), .val (.int p3), .val (.int (p2 &&& (7 : Int32))), .val (.int (1 : Int32)), .val (.int (1 : Int32)), .val (.ref b4), .unset, .unset, .unset, .unset, .unset] [])) _
    refine X5.ldc2Long hx hown (mvT hZ (hw _ (List.mem_of_getElem? (i := 28) rfl))) (g := (mkF m 41 #[.val (.long q1), .second, .val (.int p2), .val (.int p3), .val (.int (p2 &&& (7 : Int32))), .val (.int (1 : Int32)), .val (.int (1 : Int32)), .val (.ref b4), .unset, .unset, .unset, .unset, .unset] [])) rfl (hb hby at_41) _ ?_
    show Steps p.tables e below (T5.setTop (mkF m 44 #[.val (.long q1), .second, .val (.int p2), .val (.int p3), .val (.int (p2 &&& (7 : Int32))), .val (.int (1 : Int32)), .val (.int (1 : Int32)), .val (.ref b4), .unset, .unset, .unset, .unset, .unset] [(.long (6 : Int64))])) _
    refine XS.lstore X5.here hx rfl (hb hby at_44) rfl (l' := #[.val (.long q1), .second, .val (.int p2), .val (.int p3), .val (.int (p2 &&& (7 : Int32))), .val (.int (1 : Int32)), .val (.int (1 : Int32)), .val (.ref b4), .val (.long (6 : Int64)), .second, .unset, .unset, .unset]) rfl ?_
    show Steps p.tables e below (T5.setTop (mkF m 46 #[.val (.long q1), .second, .val (.int p2), .val (.int p3), .val (.int (p2 &&& (7 : Int32))), .val (.int (1 : Int32)), .val (.int (1 : Int32)), .val (.ref b4), .val (.long (6 : Int64)), .second, .unset, .unset, .unset] [])) _
    refine XS.iload X5.here hx rfl (hb hby at_46) rfl ?_
    show Steps p.tables e below (T5.setTop (mkF m 48 #[.val (.long q1), .second, .val (.int p2), .val (.int p3), .val (.int (p2 &&& (7 : Int32))), .val (.int (1 : Int32)), .val (.int (1 : Int32)), .val (.ref b4), .val (.long (6 : Int64)), .second, .unset, .unset, .unset] [(.int (1 : Int32))])) _
    refine XS.ifNo X5.here hx rfl (hb hby at_48) rfl ((if0 _ _).trans (feq hc48).1) ?_
    show Steps p.tables e below (T5.setTop (mkF m 51 #[.val (.long q1), .second, .val (.int p2), .val (.int p3), .val (.int (p2 &&& (7 : Int32))), .val (.int (1 : Int32)), .val (.int (1 : Int32)), .val (.ref b4), .val (.long (6 : Int64)), .second, .unset, .unset, .unset] [])) _
    refine XS.aload X5.here hx rfl (hb hby at_51) rfl rfl ?_
    show Steps p.tables e below (T5.setTop (mkF m 53 #[.val (.long q1), .second, .val (.int p2), .val (.int p3), .val (.int (p2 &&& (7 : Int32))), .val (.int (1 : Int32)), .val (.int (1 : Int32)), .val (.ref b4), .val (.long (6 : Int64)), .second, .unset, .unset, .unset] [(.ref b4)])) _
    refine X5.ldc2Long hx hown (mvT hZ (hw _ (List.mem_of_getElem? (i := 28) rfl))) (g := (mkF m 53 #[.val (.long q1), .second, .val (.int p2), .val (.int p3), .val (.int (p2 &&& (7 : Int32))), .val (.int (1 : Int32)), .val (.int (1 : Int32)), .val (.ref b4), .val (.long (6 : Int64)), .second, .unset, .unset, .unset] [(.ref b4)])) rfl (hb hby at_53) _ ?_
    show Steps p.tables e below (T5.setTop (mkF m 56 #[.val (.long q1), .second, .val (.int p2), .val (.int p3), .val (.int (p2 &&& (7 : Int32))), .val (.int (1 : Int32)), .val (.int (1 : Int32)), .val (.ref b4), .val (.long (6 : Int64)), .second, .unset, .unset, .unset] [(.long (6 : Int64)), (.ref b4)])) _
    refine XS.iload X5.here hx rfl (hb hby at_56) rfl ?_
    show Steps p.tables e below (T5.setTop (mkF m 58 #[.val (.long q1), .second, .val (.int p2), .val (.int p3), .val (.int (p2 &&& (7 : Int32))), .val (.int (1 : Int32)), .val (.int (1 : Int32)), .val (.ref b4), .val (.long (6 : Int64)), .second, .unset, .unset, .unset] [(.int (p2 &&& (7 : Int32))), (.long (6 : Int64)), (.ref b4)])) _
    refine XS.lshl X5.here hx rfl (hb hby at_58) rfl ?_
    show Steps p.tables e below (T5.setTop (mkF m 59 #[.val (.long q1), .second, .val (.int p2), .val (.int p3), .val (.int (p2 &&& (7 : Int32))), .val (.int (1 : Int32)), .val (.int (1 : Int32)), .val (.ref b4), .val (.long (6 : Int64)), .second, .unset, .unset, .unset] [(.long ((6 : Int64) <<< ((p2 &&& (7 : Int32)) &&& 0x3f).toInt64)), (.ref b4)])) _
    refine st6.trans ?_
    show Steps p.tables e below (T6.setTop (mkF m 62 #[.val (.long q1), .second, .val (.int p2), .val (.int p3), .val (.int (p2 &&& (7 : Int32))), .val (.int (1 : Int32)), .val (.int (1 : Int32)), .val (.ref b4), .val (.long (6 : Int64)), .second, .unset, .unset, .unset] [])) _
    refine X6.ldc2Long hx hown (mvT hZ (hw _ (List.mem_of_getElem? (i := 28) rfl))) (g := (mkF m 62 #[.val (.long q1), .second, .val (.int p2), .val (.int p3), .val (.int (p2 &&& (7 : Int32))), .val (.int (1 : Int32)), .val (.int (1 : Int32)), .val (.ref b4), .val (.long (6 : Int64)), .second, .unset, .unset, .unset] [])) rfl (hb hby at_62) _ ?_
    show Steps p.tables e below (T6.setTop (mkF m 65 #[.val (.long q1), .second, .val (.int p2), .val (.int p3), .val (.int (p2 &&& (7 : Int32))), .val (.int (1 : Int32)), .val (.int (1 : Int32)), .val (.ref b4), .val (.long (6 : Int64)), .second, .unset, .unset, .unset] [(.long (6 : Int64))])) _
    refine XS.iload X6.here hx rfl (hb hby at_65) rfl ?_
    show Steps p.tables e below (T6.setTop (mkF m 67 #[.val (.long q1), .second, .val (.int p2), .val (.int p3), .val (.int (p2 &&& (7 : Int32))), .val (.int (1 : Int32)), .val (.int (1 : Int32)), .val (.ref b4), .val (.long (6 : Int64)), .second, .unset, .unset, .unset] [(.int (p2 &&& (7 : Int32))), (.long (6 : Int64))])) _
    refine XS.lshl X6.here hx rfl (hb hby at_67) rfl ?_
    show Steps p.tables e below (T6.setTop (mkF m 68 #[.val (.long q1), .second, .val (.int p2), .val (.int p3), .val (.int (p2 &&& (7 : Int32))), .val (.int (1 : Int32)), .val (.int (1 : Int32)), .val (.ref b4), .val (.long (6 : Int64)), .second, .unset, .unset, .unset] [(.long ((6 : Int64) <<< ((p2 &&& (7 : Int32)) &&& 0x3f).toInt64))])) _
    refine XS.lstore X6.here hx rfl (hb hby at_68) rfl (l' := #[.val (.long q1), .second, .val (.int p2), .val (.int p3), .val (.int (p2 &&& (7 : Int32))), .val (.int (1 : Int32)), .val (.int (1 : Int32)), .val (.ref b4), .val (.long ((6 : Int64) <<< ((p2 &&& (7 : Int32)) &&& 0x3f).toInt64)), .second, .unset, .unset, .unset]) rfl ?_
    show Steps p.tables e below (T6.setTop (mkF m 70 #[.val (.long q1), .second, .val (.int p2), .val (.int p3), .val (.int (p2 &&& (7 : Int32))), .val (.int (1 : Int32)), .val (.int (1 : Int32)), .val (.ref b4), .val (.long ((6 : Int64) <<< ((p2 &&& (7 : Int32)) &&& 0x3f).toInt64)), .second, .unset, .unset, .unset] [])) _
    refine XS.iload X6.here hx rfl (hb hby at_70) rfl ?_
    show Steps p.tables e below (T6.setTop (mkF m 72 #[.val (.long q1), .second, .val (.int p2), .val (.int p3), .val (.int (p2 &&& (7 : Int32))), .val (.int (1 : Int32)), .val (.int (1 : Int32)), .val (.ref b4), .val (.long ((6 : Int64) <<< ((p2 &&& (7 : Int32)) &&& 0x3f).toInt64)), .second, .unset, .unset, .unset] [(.int (1 : Int32))])) _
    refine XS.ifNo X6.here hx rfl (hb hby at_72) rfl ((if0 _ _).trans (feq hc72).1) ?_
    show Steps p.tables e below (T6.setTop (mkF m 75 #[.val (.long q1), .second, .val (.int p2), .val (.int p3), .val (.int (p2 &&& (7 : Int32))), .val (.int (1 : Int32)), .val (.int (1 : Int32)), .val (.ref b4), .val (.long ((6 : Int64) <<< ((p2 &&& (7 : Int32)) &&& 0x3f).toInt64)), .second, .unset, .unset, .unset] [])) _
    refine XS.lloadN X6.here hx rfl (hb hby at_75) rfl ?_
    show Steps p.tables e below (T6.setTop (mkF m 76 #[.val (.long q1), .second, .val (.int p2), .val (.int p3), .val (.int (p2 &&& (7 : Int32))), .val (.int (1 : Int32)), .val (.int (1 : Int32)), .val (.ref b4), .val (.long ((6 : Int64) <<< ((p2 &&& (7 : Int32)) &&& 0x3f).toInt64)), .second, .unset, .unset, .unset] [(.long q1)])) _
    refine XS.goto X6.here hx rfl (pc0 := 76) (pc' := 87) rfl (hb hby at_76) (by decide) (by decide) ?_
    show Steps p.tables e below (T6.setTop (mkF m 87 #[.val (.long q1), .second, .val (.int p2), .val (.int p3), .val (.int (p2 &&& (7 : Int32))), .val (.int (1 : Int32)), .val (.int (1 : Int32)), .val (.ref b4), .val (.long ((6 : Int64) <<< ((p2 &&& (7 : Int32)) &&& 0x3f).toInt64)), .second, .unset, .unset, .unset] [(.long q1)])) _
    refine XS.lstore X6.here hx rfl (hb hby at_87) rfl (l' := #[.val (.long q1), .second, .val (.int p2), .val (.int p3), .val (.int (p2 &&& (7 : Int32))), .val (.int (1 : Int32)), .val (.int (1 : Int32)), .val (.ref b4), .val (.long ((6 : Int64) <<< ((p2 &&& (7 : Int32)) &&& 0x3f).toInt64)), .second, .val (.long q1), .second, .unset]) rfl ?_
    show Steps p.tables e below (T6.setTop (mkF m 89 #[.val (.long q1), .second, .val (.int p2), .val (.int p3), .val (.int (p2 &&& (7 : Int32))), .val (.int (1 : Int32)), .val (.int (1 : Int32)), .val (.ref b4), .val (.long ((6 : Int64) <<< ((p2 &&& (7 : Int32)) &&& 0x3f).toInt64)), .second, .val (.long q1), .second, .unset] [])) _
    refine XS.lload X6.here hx rfl (hb hby at_89) rfl ?_
    show Steps p.tables e below (T6.setTop (mkF m 91 #[.val (.long q1), .second, .val (.int p2), .val (.int p3), .val (.int (p2 &&& (7 : Int32))), .val (.int (1 : Int32)), .val (.int (1 : Int32)), .val (.ref b4), .val (.long ((6 : Int64) <<< ((p2 &&& (7 : Int32)) &&& 0x3f).toInt64)), .second, .val (.long q1), .second, .unset] [(.long q1)])) _
    refine XS.lload X6.here hx rfl (hb hby at_91) rfl ?_
    show Steps p.tables e below (T6.setTop (mkF m 93 #[.val (.long q1), .second, .val (.int p2), .val (.int p3), .val (.int (p2 &&& (7 : Int32))), .val (.int (1 : Int32)), .val (.int (1 : Int32)), .val (.ref b4), .val (.long ((6 : Int64) <<< ((p2 &&& (7 : Int32)) &&& 0x3f).toInt64)), .second, .val (.long q1), .second, .unset] [(.long ((6 : Int64) <<< ((p2 &&& (7 : Int32)) &&& 0x3f).toInt64)), (.long q1)])) _
    refine XS.lcmp X6.here hx rfl (hb hby at_93) rfl ?_
    show Steps p.tables e below (T6.setTop (mkF m 94 #[.val (.long q1), .second, .val (.int p2), .val (.int p3), .val (.int (p2 &&& (7 : Int32))), .val (.int (1 : Int32)), .val (.int (1 : Int32)), .val (.ref b4), .val (.long ((6 : Int64) <<< ((p2 &&& (7 : Int32)) &&& 0x3f).toInt64)), .second, .val (.long q1), .second, .unset] [(.int (lcmpW q1 ((6 : Int64) <<< ((p2 &&& (7 : Int32)) &&& 0x3f).toInt64)))])) _
    refine XS.ifNo X6.here hx rfl (hb hby at_94) rfl ((if0 _ _).trans (flt hc94).2.2.1) ?_
    show Steps p.tables e below (T6.setTop (mkF m 97 #[.val (.long q1), .second, .val (.int p2), .val (.int p3), .val (.int (p2 &&& (7 : Int32))), .val (.int (1 : Int32)), .val (.int (1 : Int32)), .val (.ref b4), .val (.long ((6 : Int64) <<< ((p2 &&& (7 : Int32)) &&& 0x3f).toInt64)), .second, .val (.long q1), .second, .unset] [])) _
    refine XS.iconst X6.here hx rfl (hb hby at_97) ?_
    show Steps p.tables e below (T6.setTop (mkF m 98 #[.val (.long q1), .second, .val (.int p2), .val (.int p3), .val (.int (p2 &&& (7 : Int32))), .val (.int (1 : Int32)), .val (.int (1 : Int32)), .val (.ref b4), .val (.long ((6 : Int64) <<< ((p2 &&& (7 : Int32)) &&& 0x3f).toInt64)), .second, .val (.long q1), .second, .unset] [(.int (1 : Int32))])) _
    refine XS.goto X6.here hx rfl (pc0 := 98) (pc' := 102) rfl (hb hby at_98) (by decide) (by decide) ?_
    show Steps p.tables e below (T6.setTop (mkF m 102 #[.val (.long q1), .second, .val (.int p2), .val (.int p3), .val (.int (p2 &&& (7 : Int32))), .val (.int (1 : Int32)), .val (.int (1 : Int32)), .val (.ref b4), .val (.long ((6 : Int64) <<< ((p2 &&& (7 : Int32)) &&& 0x3f).toInt64)), .second, .val (.long q1), .second, .unset] [(.int (1 : Int32))])) _
    refine XS.istore X6.here hx rfl (hb hby at_102) rfl (l' := #[.val (.long q1), .second, .val (.int p2), .val (.int p3), .val (.int (p2 &&& (7 : Int32))), .val (.int (1 : Int32)), .val (.int (1 : Int32)), .val (.ref b4), .val (.long ((6 : Int64) <<< ((p2 &&& (7 : Int32)) &&& 0x3f).toInt64)), .second, .val (.long q1), .second, .val (.int (1 : Int32))]) rfl ?_
    show Steps p.tables e below (T6.setTop (mkF m 104 #[.val (.long q1), .second, .val (.int p2), .val (.int p3), .val (.int (p2 &&& (7 : Int32))), .val (.int (1 : Int32)), .val (.int (1 : Int32)), .val (.ref b4), .val (.long ((6 : Int64) <<< ((p2 &&& (7 : Int32)) &&& 0x3f).toInt64)), .second, .val (.long q1), .second, .val (.int (1 : Int32))] [])) _
    refine XS.aload X6.here hx rfl (hb hby at_104) rfl rfl ?_
    show Steps p.tables e below (T6.setTop (mkF m 106 #[.val (.long q1), .second, .val (.int p2), .val (.int p3), .val (.int (p2 &&& (7 : Int32))), .val (.int (1 : Int32)), .val (.int (1 : Int32)), .val (.ref b4), .val (.long ((6 : Int64) <<< ((p2 &&& (7 : Int32)) &&& 0x3f).toInt64)), .second, .val (.long q1), .second, .val (.int (1 : Int32))] [(.ref b4)])) _
    refine XS.lload X6.here hx rfl (hb hby at_106) rfl ?_
    show Steps p.tables e below (T6.setTop (mkF m 108 #[.val (.long q1), .second, .val (.int p2), .val (.int p3), .val (.int (p2 &&& (7 : Int32))), .val (.int (1 : Int32)), .val (.int (1 : Int32)), .val (.ref b4), .val (.long ((6 : Int64) <<< ((p2 &&& (7 : Int32)) &&& 0x3f).toInt64)), .second, .val (.long q1), .second, .val (.int (1 : Int32))] [(.long q1), (.ref b4)])) _
    refine st7.trans ?_
    show Steps p.tables e below (T7.setTop (mkF m 111 #[.val (.long q1), .second, .val (.int p2), .val (.int p3), .val (.int (p2 &&& (7 : Int32))), .val (.int (1 : Int32)), .val (.int (1 : Int32)), .val (.ref b4), .val (.long ((6 : Int64) <<< ((p2 &&& (7 : Int32)) &&& 0x3f).toInt64)), .second, .val (.long q1), .second, .val (.int (1 : Int32))] [(.int (1 : Int32))])) _
    refine XS.iload X7.here hx rfl (hb hby at_111) rfl ?_
    show Steps p.tables e below (T7.setTop (mkF m 113 #[.val (.long q1), .second, .val (.int p2), .val (.int p3), .val (.int (p2 &&& (7 : Int32))), .val (.int (1 : Int32)), .val (.int (1 : Int32)), .val (.ref b4), .val (.long ((6 : Int64) <<< ((p2 &&& (7 : Int32)) &&& 0x3f).toInt64)), .second, .val (.long q1), .second, .val (.int (1 : Int32))] [(.int (1 : Int32)), (.int (1 : Int32))])) _
    refine XS.icmpNo X7.here hx rfl (hb hby at_113) rfl (teq (rfl : (1 : Int32) = (1 : Int32))).2 ?_
    show Steps p.tables e below (T7.setTop (mkF m 116 #[.val (.long q1), .second, .val (.int p2), .val (.int p3), .val (.int (p2 &&& (7 : Int32))), .val (.int (1 : Int32)), .val (.int (1 : Int32)), .val (.ref b4), .val (.long ((6 : Int64) <<< ((p2 &&& (7 : Int32)) &&& 0x3f).toInt64)), .second, .val (.long q1), .second, .val (.int (1 : Int32))] [])) _
    refine XS.iconst X7.here hx rfl (hb hby at_116) ?_
    show Steps p.tables e below (T7.setTop (mkF m 117 #[.val (.long q1), .second, .val (.int p2), .val (.int p3), .val (.int (p2 &&& (7 : Int32))), .val (.int (1 : Int32)), .val (.int (1 : Int32)), .val (.ref b4), .val (.long ((6 : Int64) <<< ((p2 &&& (7 : Int32)) &&& 0x3f).toInt64)), .second, .val (.long q1), .second, .val (.int (1 : Int32))] [(.int (1 : Int32))])) _
    refine XS.goto X7.here hx rfl (pc0 := 117) (pc' := 121) rfl (hb hby at_117) (by decide) (by decide) ?_
    show Steps p.tables e below (T7.setTop (mkF m 121 #[.val (.long q1), .second, .val (.int p2), .val (.int p3), .val (.int (p2 &&& (7 : Int32))), .val (.int (1 : Int32)), .val (.int (1 : Int32)), .val (.ref b4), .val (.long ((6 : Int64) <<< ((p2 &&& (7 : Int32)) &&& 0x3f).toInt64)), .second, .val (.long q1), .second, .val (.int (1 : Int32))] [(.int (1 : Int32))])) _
    exact retN X7 hx (t := .boolean) Bd.returns (by simp) (hb hby at_121) hr
  · show Qz  h0 n0 _ T7.heap _
    rw [hh7]
    exact ⟨rfl, N7⟩
set_option maxRecDepth 65536 in
set_option maxHeartbeats 40000000 in
theorem rm0_fffftf (l : Launch) (Z : State) (a0 : Array Value) (hw : ∀ d ∈ tables_1, d.before a0 Z = true) (ws : List Jvm.Cond) (q1 : Int64) (p2 : Int32) (p3 : Int32) (zz : Int32) (h0 : Heap) (n0 : Nat) (Z0 : n0 ≤ h0.size) (hq : (((6 : Int64) <<< ((p2 &&& (7 : Int32)) &&& 0x3f).toInt64) = (6 : Int64) ∧ zz = (8 : Int32)) ∨ (((6 : Int64) <<< ((p2 &&& (7 : Int32)) &&& 0x3f).toInt64) = (12 : Int64) ∧ zz = (16 : Int32)) ∨ (((6 : Int64) <<< ((p2 &&& (7 : Int32)) &&& 0x3f).toInt64) = (24 : Int64) ∧ zz = (32 : Int32)) ∨ (((6 : Int64) <<< ((p2 &&& (7 : Int32)) &&& 0x3f).toInt64) = (48 : Int64) ∧ zz = (64 : Int32)) ∨ (((6 : Int64) <<< ((p2 &&& (7 : Int32)) &&& 0x3f).toInt64) = (96 : Int64) ∧ zz = (128 : Int32)) ∨ (((6 : Int64) <<< ((p2 &&& (7 : Int32)) &&& 0x3f).toInt64) = (192 : Int64) ∧ zz = (256 : Int32)) ∨ (((6 : Int64) <<< ((p2 &&& (7 : Int32)) &&& 0x3f).toInt64) = (384 : Int64) ∧ zz = (512 : Int32)) ∨ (((6 : Int64) <<< ((p2 &&& (7 : Int32)) &&& 0x3f).toInt64) = (768 : Int64) ∧ zz = (1024 : Int32))) (hcap : (((zz / (4 : Int32)) * (3 : Int32)).toInt64) = ((6 : Int64) <<< ((p2 &&& (7 : Int32)) &&& 0x3f).toInt64)) (hc9 : ¬ ((p3 &&& (2 : Int32)) = (0 : Int32))) (hc22 : ¬ ((p3 &&& (1 : Int32)) = (0 : Int32))) (hc48 : ¬ ((1 : Int32) = (0 : Int32))) (hc72 : ¬ ((1 : Int32) = (0 : Int32))) (hc94 : (0 : Int32) < (lcmpW q1 ((6 : Int64) <<< ((p2 &&& (7 : Int32)) &&& 0x3f).toInt64))) :
    MetFree l x (head1 (Jvm.Cond.code x code maxLocals ret :: ws) room_1) (fun a U => a = #[(.long q1), (.int p2), (.int p3)] ∧ Z.Warmed39 U.vm ∧ U.heap = h0) (fun _ _ _ _ _ => True) (fun _ U o U' => ∃ v L, o = .returned v ∧ Qz  h0 n0 v U'.heap L ∧ FrameEnd U o U' L room_1.cells room_1.slots) := by
  refine MetFree.of_bodySF (plainFor_of_name pn_0) hisR ?_
  intro p e s m args below meth c s₁ Bd hml0 hP hK
  obtain ⟨rfl, hZ, hh⟩ := hP
  have hx := Bd.exec
  have hby := Bd.bytes
  have hml : c.maxLocals = 13 := hml0
  have hown : s.vm.findClass "com/example/wheredb/wheredb/storage/MemorySetHasRoomForPinLaw" = some m.cls := findClass_of_methodNamed Bd.named
  have hnm := (name_of_methodNamed Bd.named Bd.method).1
  have X0 : Stand p l e room_1 s m #[(.long q1), (.int p2), (.int p3)] below meth c s₁ [] 0 0 := Stand.of_body Bd
  have e0 : s₁.heap = h0 := by rw [← hh, Bd.state]; rfl
  have N0 := Fr.nil n0
  have pre0 : ∀ t, Steps p.tables e below (s₁.setTop (mkF m 0 #[.val (.long q1), .second, .val (.int p2), .val (.int p3), .unset, .unset, .unset, .unset, .unset, .unset, .unset, .unset, .unset] [])) t → Steps p.tables e below (s₁.setTop (entryFrame m #[(.long q1), (.int p2), (.int p3)] maxLocals)) t := fun t k => castTop (ef_0 m q1 p2 p3) k
  obtain ⟨T4, h4, X4, e4, E4, A4, D4, -, st4⟩ := newO X0 hx hZ hown (hw _ (List.mem_of_getElem? (i := 0) rfl)) (hw _ (List.mem_of_getElem? (i := 1) rfl)) (hw _ (List.mem_of_getElem? (i := 2) rfl)) e0 (g := (mkF m 32 #[.val (.long q1), .second, .val (.int p2), .val (.int p3), .val (.int (p2 &&& (7 : Int32))), .val (.int (1 : Int32)), .val (.int (1 : Int32)), .unset, .unset, .unset, .unset, .unset, .unset] [])) rfl (hb hby at_32) (by decide) (by decide)
  obtain ⟨b4, g4⟩ : ∃ z, z = h0.size := ⟨_, rfl⟩
  rw [← g4] at A4 D4 st4
  have F_chunks_b4 : Fld Z h4 b4 "com/example/wheredb/wheredb/storage/MemorySet" "chunks" "[Lcom/example/wheredb/wheredb/storage/MemorySet$Chunk;" .null := D4 (Or.inl (hw _ (List.mem_of_getElem? (i := 12) rfl))) (ty := (.array (.object "com/example/wheredb/wheredb/storage/MemorySet$Chunk"))) (by decide)
  have F_lastCells_b4 : Fld Z h4 b4 "com/example/wheredb/wheredb/storage/MemorySet" "lastCells" "[J" .null := D4 (Or.inl (hw _ (List.mem_of_getElem? (i := 15) rfl))) (ty := (.array .long)) (by decide)
  have F_slotHashes_b4 : Fld Z h4 b4 "com/example/wheredb/wheredb/storage/MemorySet" "slotHashes" "[I" .null := D4 (Or.inl (hw _ (List.mem_of_getElem? (i := 18) rfl))) (ty := (.array .int)) (by decide)
  have F_slotCells_b4 : Fld Z h4 b4 "com/example/wheredb/wheredb/storage/MemorySet" "slotCells" "[J" .null := D4 (Or.inl (hw _ (List.mem_of_getElem? (i := 20) rfl))) (ty := (.array .long)) (by decide)
  have F_slotShift_b4 : Fld Z h4 b4 "com/example/wheredb/wheredb/storage/MemorySet" "slotShift" "I" (.int (0 : Int32)) := D4 (Or.inl (hw _ (List.mem_of_getElem? (i := 27) rfl))) (ty := .int) (by decide)
  have E_b4 := A4
  have g_b4 : n0 ≤ b4 := Nat.le_trans Z0 (Nat.le_of_eq g4.symm)
  have sz_b4 : h0.size ≤ b4 := (Nat.le_trans (Keep.refl h0 []).1 (Nat.le_of_eq g4.symm))
  have K4 : Keep h0 h4 [] := (Keep.refl h0 []).ext E4
  obtain ⟨_, _, ⟨T5, L5, k5, n5⟩, -, X5, ⟨Lc5, hQ5, l5, y5, z5⟩, st5⟩ := X4.specialBack hx (y := (⟨"com/example/wheredb/wheredb/storage/MemorySet", "<init>", "()V"⟩ : MethodName)) rfl hown (mvT hZ (hw _ (List.mem_of_getElem? (i := 3) rfl))) (mvT hZ (hw _ (List.mem_of_getElem? (i := 4) rfl))) (mvT hZ (hw _ (List.mem_of_getElem? (i := 5) rfl))) (by decide) (backOf (W := 1) (rm1 l Z a0 hw [] b4 .null .null .null .null (.int (0 : Int32)) h4 n0 (Nat.le_trans Z0 E4.1) E_b4 F_chunks_b4 g_b4 F_lastCells_b4 F_slotHashes_b4 F_slotCells_b4 F_slotShift_b4) hZ (hw _ (List.mem_of_getElem? (i := 5) rfl)) (hw _ (List.mem_of_getElem? (i := 2) rfl)) (by decide) (by decide)) (g := (mkF m 36 #[.val (.long q1), .second, .val (.int p2), .val (.int p3), .val (.int (p2 &&& (7 : Int32))), .val (.int (1 : Int32)), .val (.int (1 : Int32)), .unset, .unset, .unset, .unset, .unset, .unset] [(.ref b4), (.ref b4)])) rfl (by rw [hml]; rfl) (Steps.refl _) (a := b4) (argsL := []) (rest := [(.ref b4)]) (lenOf pd_0_0 rfl) rfl (by show 2 * 0 + _ ≤ _; exact Nat.le_of_eq rfl) (hb hby at_36) (fun _ _ => ⟨rfl, e4, (by decide : 1 + 4 ≤ _), (by decide : 7 + 24 ≤ _)⟩)
  dsimp only [Pt.U, Pt.locs, Pt.cells, Pt.slots] at X5 l5 y5 z5 st5 hQ5
  subst l5 y5 z5
  obtain ⟨rfl, N5q, Kc5, Ec5, bh5, bc5, kb5, rs5, Fh5, Fs5, Ft5, Vb5⟩ := hQ5
  have N5 := Fr.app N0 N5q
  have K5 : Keep h0 T5.heap [] := K4.trans Kc5 (allS (Or.inr sz_b4) all0)
  obtain ⟨cq6, kq6, q6a, q6b, q6c⟩ := isOf hZ rfl Ec5
  obtain ⟨_, _, ⟨T6, L6, k6, n6⟩, -, X6, ⟨Lc6, hQ6, l6, y6, z6⟩, st6⟩ := X5.virtualBack hx (y := (⟨"com/example/wheredb/wheredb/storage/MemorySet", "reserve", "(J)V"⟩ : MethodName)) (z := (⟨"com/example/wheredb/wheredb/storage/MemorySet", "reserve", "(J)V"⟩ : MethodName)) hown (mvT hZ (hw _ (List.mem_of_getElem? (i := 34) rfl))) (mvT hZ (hw _ (List.mem_of_getElem? (i := 35) rfl))) (notFace_of_selects (args := #[]) (mvT hZ (hw _ (List.mem_of_getElem? (i := 37) rfl)))) (mvT hZ (hw _ (List.mem_of_getElem? (i := 37) rfl))) (mvT hZ (hw _ (List.mem_of_getElem? (i := 36) rfl))) (by decide) (backOf (W := 0) (rm5 l Z a0 hw [] b4 ((6 : Int64) <<< ((p2 &&& (7 : Int32)) &&& 0x3f).toInt64) bh5 kb5 bc5 rs5 zz T5.heap n0 (Nat.le_trans (Nat.le_trans Z0 E4.1) Kc5.1) Fh5 Ec5 Fs5 Ft5 g_b4 Vb5 hq) hZ (hw _ (List.mem_of_getElem? (i := 38) rfl)) (hw _ (List.mem_of_getElem? (i := 2) rfl)) (by decide) (by decide)) q6a q6c (g := (mkF m 59 #[.val (.long q1), .second, .val (.int p2), .val (.int p3), .val (.int (p2 &&& (7 : Int32))), .val (.int (1 : Int32)), .val (.int (1 : Int32)), .val (.ref b4), .val (.long (6 : Int64)), .second, .unset, .unset, .unset] [(.long ((6 : Int64) <<< ((p2 &&& (7 : Int32)) &&& 0x3f).toInt64)), (.ref b4)])) rfl (by rw [hml]; rfl) (Steps.refl _) (argsL := [(.long ((6 : Int64) <<< ((p2 &&& (7 : Int32)) &&& 0x3f).toInt64))]) (rest := []) (lenOf pd_0_3 rfl) rfl (by show 2 * 0 + _ ≤ _; exact Nat.le_of_eq rfl) (hb hby at_59) (fun _ _ => ⟨rfl, rfl, (by decide : 5 + 2 ≤ _), (by decide : 31 + 2048 ≤ _)⟩)
  dsimp only [Pt.U, Pt.locs, Pt.cells, Pt.slots] at X6 l6 y6 z6 st6 hQ6
  subst l6 y6 z6
  obtain ⟨rfl, N6q, Kc6, Ec6, bh6, kb6, Fh6, Vb6⟩ := hQ6
  have N6 := Fr.app N5 N6q
  have K6 : Keep h0 T6.heap [] := K5.trans Kc6 (allS (Or.inr sz_b4) all0)
  obtain ⟨cl_c7, Ar_c7, -, S_c7, N_c7, -, -⟩ := Vb6
  obtain ⟨cq7, kq7, q7a, q7b, q7c⟩ := isOf hZ rfl Ec6
  obtain ⟨_, _, ⟨T7, L7, k7, n7⟩, -, X7, ⟨Lc7, hQ7, l7, y7, z7⟩, st7⟩ := X6.virtualBack hx (y := (⟨"com/example/wheredb/wheredb/storage/MemorySet", "hasRoomFor", "(J)Z"⟩ : MethodName)) (z := (⟨"com/example/wheredb/wheredb/storage/MemorySet", "hasRoomFor", "(J)Z"⟩ : MethodName)) hown (mvT hZ (hw _ (List.mem_of_getElem? (i := 29) rfl))) (mvT hZ (hw _ (List.mem_of_getElem? (i := 30) rfl))) (notFace_of_selects (args := #[]) (mvT hZ (hw _ (List.mem_of_getElem? (i := 32) rfl)))) (mvT hZ (hw _ (List.mem_of_getElem? (i := 32) rfl))) (mvT hZ (hw _ (List.mem_of_getElem? (i := 31) rfl))) (by decide) (backOf (W := 0) (rm4_t l Z a0 hw [] b4 q1 bh6 cl_c7 zz T6.heap n0 (Nat.le_trans (Nat.le_trans (Nat.le_trans Z0 E4.1) Kc5.1) Kc6.1) Fh6 Ar_c7 S_c7 N_c7 (by decide) (by rw [hcap]; exact hc94)) hZ (hw _ (List.mem_of_getElem? (i := 33) rfl)) (hw _ (List.mem_of_getElem? (i := 2) rfl)) (by decide) (by decide)) q7a q7c (g := (mkF m 108 #[.val (.long q1), .second, .val (.int p2), .val (.int p3), .val (.int (p2 &&& (7 : Int32))), .val (.int (1 : Int32)), .val (.int (1 : Int32)), .val (.ref b4), .val (.long ((6 : Int64) <<< ((p2 &&& (7 : Int32)) &&& 0x3f).toInt64)), .second, .val (.long q1), .second, .val (.int (0 : Int32))] [(.long q1), (.ref b4)])) rfl (by rw [hml]; rfl) (Steps.refl _) (argsL := [(.long q1)]) (rest := []) (lenOf pd_0_2 rfl) rfl (by show 2 * 0 + _ ≤ _; exact Nat.le_of_eq rfl) (hb hby at_108) (fun _ _ => ⟨rfl, rfl, (by decide : 7 + 0 ≤ _), (by decide : 2079 + 0 ≤ _)⟩)
  dsimp only [Pt.U, Pt.locs, Pt.cells, Pt.slots] at X7 l7 y7 z7 st7 hQ7
  subst l7 y7 z7
  obtain ⟨rfl, N7q, hh7⟩ := hQ7
  have N7 := Fr.app N6 N7q
  obtain ⟨fs, hr, hrun, hended, hW, hsame⟩ := X7.leave (v := some (.int (1 : Int32))) (fun h => by rw [Bd.returns] at h; cases h)
  refine ⟨_, _, pre0 _ ?_, hrun, hended, _, _, rfl, ?_, ⟨_, rfl⟩, hW, hsame.mono (by decide) (by decide)⟩
  · show Steps p.tables e below (s₁.setTop (mkF m 0 #[.val (.long q1), .second, .val (.int p2), .val (.int p3), .unset, .unset, .unset, .unset, .unset, .unset, .unset, .unset, .unset] [])) _
    refine XS.iloadN X0.here hx rfl (hb hby at_0) rfl ?_
    show Steps p.tables e below (s₁.setTop (mkF m 1 #[.val (.long q1), .second, .val (.int p2), .val (.int p3), .unset, .unset, .unset, .unset, .unset, .unset, .unset, .unset, .unset] [(.int p2)])) _
    refine XS.bipush X0.here hx rfl (hb hby at_1) ?_
    show Steps p.tables e below (s₁.setTop (mkF m 3 #[.val (.long q1), .second, .val (.int p2), .val (.int p3), .unset, .unset, .unset, .unset, .unset, .unset, .unset, .unset, .unset] [(.int (7 : Int32)), (.int p2)])) _
    refine XS.iand X0.here hx rfl (hb hby at_3) rfl ?_
    show Steps p.tables e below (s₁.setTop (mkF m 4 #[.val (.long q1), .second, .val (.int p2), .val (.int p3), .unset, .unset, .unset, .unset, .unset, .unset, .unset, .unset, .unset] [(.int (p2 &&& (7 : Int32)))])) _
    refine XS.istore X0.here hx rfl (hb hby at_4) rfl (l' := #[.val (.long q1), .second, .val (.int p2), .val (.int p3), .val (.int (p2 &&& (7 : Int32))), .unset, .unset, .unset, .unset, .unset, .unset, .unset, .unset]) rfl ?_
    show Steps p.tables e below (s₁.setTop (mkF m 6 #[.val (.long q1), .second, .val (.int p2), .val (.int p3), .val (.int (p2 &&& (7 : Int32))), .unset, .unset, .unset, .unset, .unset, .unset, .unset, .unset] [])) _
    refine XS.iloadN X0.here hx rfl (hb hby at_6) rfl ?_
    show Steps p.tables e below (s₁.setTop (mkF m 7 #[.val (.long q1), .second, .val (.int p2), .val (.int p3), .val (.int (p2 &&& (7 : Int32))), .unset, .unset, .unset, .unset, .unset, .unset, .unset, .unset] [(.int p3)])) _
    refine XS.iconst X0.here hx rfl (hb hby at_7) ?_
    show Steps p.tables e below (s₁.setTop (mkF m 8 #[.val (.long q1), .second, .val (.int p2), .val (.int p3), .val (.int (p2 &&& (7 : Int32))), .unset, .unset, .unset, .unset, .unset, .unset, .unset, .unset] [(.int (2 : Int32)), (.int p3)])) _
    refine XS.iand X0.here hx rfl (hb hby at_8) rfl ?_
    show Steps p.tables e below (s₁.setTop (mkF m 9 #[.val (.long q1), .second, .val (.int p2), .val (.int p3), .val (.int (p2 &&& (7 : Int32))), .unset, .unset, .unset, .unset, .unset, .unset, .unset, .unset] [(.int (p3 &&& (2 : Int32)))])) _
    refine XS.ifNo X0.here hx rfl (hb hby at_9) rfl ((if0 _ _).trans (feq hc9).1) ?_
    show Steps p.tables e below (s₁.setTop (mkF m 12 #[.val (.long q1), .second, .val (.int p2), .val (.int p3), .val (.int (p2 &&& (7 : Int32))), .unset, .unset, .unset, .unset, .unset, .unset, .unset, .unset] [])) _
    refine XS.iconst X0.here hx rfl (hb hby at_12) ?_
    show Steps p.tables e below (s₁.setTop (mkF m 13 #[.val (.long q1), .second, .val (.int p2), .val (.int p3), .val (.int (p2 &&& (7 : Int32))), .unset, .unset, .unset, .unset, .unset, .unset, .unset, .unset] [(.int (1 : Int32))])) _
    refine XS.goto X0.here hx rfl (pc0 := 13) (pc' := 17) rfl (hb hby at_13) (by decide) (by decide) ?_
    show Steps p.tables e below (s₁.setTop (mkF m 17 #[.val (.long q1), .second, .val (.int p2), .val (.int p3), .val (.int (p2 &&& (7 : Int32))), .unset, .unset, .unset, .unset, .unset, .unset, .unset, .unset] [(.int (1 : Int32))])) _
    refine XS.istore X0.here hx rfl (hb hby at_17) rfl (l' := #[.val (.long q1), .second, .val (.int p2), .val (.int p3), .val (.int (p2 &&& (7 : Int32))), .val (.int (1 : Int32)), .unset, .unset, .unset, .unset, .unset, .unset, .unset]) rfl ?_
    show Steps p.tables e below (s₁.setTop (mkF m 19 #[.val (.long q1), .second, .val (.int p2), .val (.int p3), .val (.int (p2 &&& (7 : Int32))), .val (.int (1 : Int32)), .unset, .unset, .unset, .unset, .unset, .unset, .unset] [])) _
    refine XS.iloadN X0.here hx rfl (hb hby at_19) rfl ?_
    show Steps p.tables e below (s₁.setTop (mkF m 20 #[.val (.long q1), .second, .val (.int p2), .val (.int p3), .val (.int (p2 &&& (7 : Int32))), .val (.int (1 : Int32)), .unset, .unset, .unset, .unset, .unset, .unset, .unset] [(.int p3)])) _
    refine XS.iconst X0.here hx rfl (hb hby at_20) ?_
    show Steps p.tables e below (s₁.setTop (mkF m 21 #[.val (.long q1), .second, .val (.int p2), .val (.int p3), .val (.int (p2 &&& (7 : Int32))), .val (.int (1 : Int32)), .unset, .unset, .unset, .unset, .unset, .unset, .unset] [(.int (1 : Int32)), (.int p3)])) _
    refine XS.iand X0.here hx rfl (hb hby at_21) rfl ?_
    show Steps p.tables e below (s₁.setTop (mkF m 22 #[.val (.long q1), .second, .val (.int p2), .val (.int p3), .val (.int (p2 &&& (7 : Int32))), .val (.int (1 : Int32)), .unset, .unset, .unset, .unset, .unset, .unset, .unset] [(.int (p3 &&& (1 : Int32)))])) _
    refine XS.ifNo X0.here hx rfl (hb hby at_22) rfl ((if0 _ _).trans (feq hc22).1) ?_
    show Steps p.tables e below (s₁.setTop (mkF m 25 #[.val (.long q1), .second, .val (.int p2), .val (.int p3), .val (.int (p2 &&& (7 : Int32))), .val (.int (1 : Int32)), .unset, .unset, .unset, .unset, .unset, .unset, .unset] [])) _
    refine XS.iconst X0.here hx rfl (hb hby at_25) ?_
    show Steps p.tables e below (s₁.setTop (mkF m 26 #[.val (.long q1), .second, .val (.int p2), .val (.int p3), .val (.int (p2 &&& (7 : Int32))), .val (.int (1 : Int32)), .unset, .unset, .unset, .unset, .unset, .unset, .unset] [(.int (1 : Int32))])) _
    refine XS.goto X0.here hx rfl (pc0 := 26) (pc' := 30) rfl (hb hby at_26) (by decide) (by decide) ?_
    show Steps p.tables e below (s₁.setTop (mkF m 30 #[.val (.long q1), .second, .val (.int p2), .val (.int p3), .val (.int (p2 &&& (7 : Int32))), .val (.int (1 : Int32)), .unset, .unset, .unset, .unset, .unset, .unset, .unset] [(.int (1 : Int32))])) _
    refine XS.istore X0.here hx rfl (hb hby at_30) rfl (l' := #[.val (.long q1), .second, .val (.int p2), .val (.int p3), .val (.int (p2 &&& (7 : Int32))), .val (.int (1 : Int32)), .val (.int (1 : Int32)), .unset, .unset, .unset, .unset, .unset, .unset]) rfl ?_
    show Steps p.tables e below (s₁.setTop (mkF m 32 #[.val (.long q1), .second, .val (.int p2), .val (.int p3), .val (.int (p2 &&& (7 : Int32))), .val (.int (1 : Int32)), .val (.int (1 : Int32)), .unset, .unset, .unset, .unset, .unset, .unset] [])) _
    refine st4 _ ?_
    show Steps p.tables e below (T4.setTop (mkF m 35 #[.val (.long q1), .second, .val (.int p2), .val (.int p3), .val (.int (p2 &&& (7 : Int32))), .val (.int (1 : Int32)), .val (.int (1 : Int32)), .unset, .unset, .unset, .unset, .unset, .unset] [(.ref b4)])) _
    refine XS.dup X4.here hx rfl (hb hby at_35) rfl rfl ?_
    show Steps p.tables e below (T4.setTop (mkF m 36 #[.val (.long q1), .second, .val (.int p2), .val (.int p3), .val (.int (p2 &&& (7 : Int32))), .val (.int (1 : Int32)), .val (.int (1 : Int32)), .unset, .unset, .unset, .unset, .unset, .unset] [(.ref b4), (.ref b4)])) _
    refine st5.trans ?_
    show Steps p.tables e below (T5.setTop (mkF m 39 #[.val (.long q1), .second, .val (.int p2), .val (.int p3), .val (.int (p2 &&& (7 : Int32))), .val (.int (1 : Int32)), .val (.int (1 : Int32)), .unset, .unset, .unset, .unset, .unset, .unset] [(.ref b4)])) _
    refine XS.astore X5.here hx rfl (hb hby at_39) rfl rfl (l' := #[.val (.long q1), .second, .val (.int p2), .val (.int p3), .val (.int (p2 &&& (7 : Int32))), .val (.int (1 : Int32)), .val (.int (1 : Int32)), .val (.ref b4), .unset, .unset, .unset, .unset, .unset]) rfl ?_
    show Steps p.tables e below (T5.setTop (mkF m 41 #[.val (.long q1), .second, .val (.int p2), .val (.int p3), .val (.int (p2 &&& (7 : Int32))), .val (.int (1 : Int32)), .val (.int (1 : Int32)), .val (.ref b4), .unset, .unset, .unset, .unset, .unset] [])) _
    refine X5.ldc2Long hx hown (mvT hZ (hw _ (List.mem_of_getElem? (i := 28) rfl))) (g := (mkF m 41 #[.val (.long q1), .second, .val (.int p2), .val (.int p3), .val (.int (p2 &&& (7 : Int32))), .val (.int (1 : Int32)), .val (.int (1 : Int32)), .val (.ref b4), .unset, .unset, .unset, .unset, .unset] [])) rfl (hb hby at_41) _ ?_
    show Steps p.tables e below (T5.setTop (mkF m 44 #[.val (.long q1), .second, .val (.int p2), .val (.int p3), .val (.int (p2 &&& (7 : Int32))), .val (.int (1 : Int32)), .val (.int (1 : Int32)), .val (.ref b4), .unset, .unset, .unset, .unset, .unset] [(.long (6 : Int64))])) _
    refine XS.lstore X5.here hx rfl (hb hby at_44) rfl (l' := #[.val (.long q1), .second, .val (.int p2), .val (.int p3), .val (.int (p2 &&& (7 : Int32))), .val (.int (1 : Int32)), .val (.int (1 : Int32)), .val (.ref b4), .val (.long (6 : Int64)), .second, .unset, .unset, .unset]) rfl ?_
    show Steps p.tables e below (T5.setTop (mkF m 46 #[.val (.long q1), .second, .val (.int p2), .val (.int p3), .val (.int (p2 &&& (7 : Int32))), .val (.int (1 : Int32)), .val (.int (1 : Int32)), .val (.ref b4), .val (.long (6 : Int64)), .second, .unset, .unset, .unset] [])) _
    refine XS.iload X5.here hx rfl (hb hby at_46) rfl ?_
    show Steps p.tables e below (T5.setTop (mkF m 48 #[.val (.long q1), .second, .val (.int p2), .val (.int p3), .val (.int (p2 &&& (7 : Int32))), .val (.int (1 : Int32)), .val (.int (1 : Int32)), .val (.ref b4), .val (.long (6 : Int64)), .second, .unset, .unset, .unset] [(.int (1 : Int32))])) _
    refine XS.ifNo X5.here hx rfl (hb hby at_48) rfl ((if0 _ _).trans (feq hc48).1) ?_
    show Steps p.tables e below (T5.setTop (mkF m 51 #[.val (.long q1), .second, .val (.int p2), .val (.int p3), .val (.int (p2 &&& (7 : Int32))), .val (.int (1 : Int32)), .val (.int (1 : Int32)), .val (.ref b4), .val (.long (6 : Int64)), .second, .unset, .unset, .unset] [])) _
    refine XS.aload X5.here hx rfl (hb hby at_51) rfl rfl ?_
    show Steps p.tables e below (T5.setTop (mkF m 53 #[.val (.long q1), .second, .val (.int p2), .val (.int p3), .val (.int (p2 &&& (7 : Int32))), .val (.int (1 : Int32)), .val (.int (1 : Int32)), .val (.ref b4), .val (.long (6 : Int64)), .second, .unset, .unset, .unset] [(.ref b4)])) _
    refine X5.ldc2Long hx hown (mvT hZ (hw _ (List.mem_of_getElem? (i := 28) rfl))) (g := (mkF m 53 #[.val (.long q1), .second, .val (.int p2), .val (.int p3), .val (.int (p2 &&& (7 : Int32))), .val (.int (1 : Int32)), .val (.int (1 : Int32)), .val (.ref b4), .val (.long (6 : Int64)), .second, .unset, .unset, .unset] [(.ref b4)])) rfl (hb hby at_53) _ ?_
    show Steps p.tables e below (T5.setTop (mkF m 56 #[.val (.long q1), .second, .val (.int p2), .val (.int p3), .val (.int (p2 &&& (7 : Int32))), .val (.int (1 : Int32)), .val (.int (1 : Int32)), .val (.ref b4), .val (.long (6 : Int64)), .second, .unset, .unset, .unset] [(.long (6 : Int64)), (.ref b4)])) _
    refine XS.iload X5.here hx rfl (hb hby at_56) rfl ?_
    show Steps p.tables e below (T5.setTop (mkF m 58 #[.val (.long q1), .second, .val (.int p2), .val (.int p3), .val (.int (p2 &&& (7 : Int32))), .val (.int (1 : Int32)), .val (.int (1 : Int32)), .val (.ref b4), .val (.long (6 : Int64)), .second, .unset, .unset, .unset] [(.int (p2 &&& (7 : Int32))), (.long (6 : Int64)), (.ref b4)])) _
    refine XS.lshl X5.here hx rfl (hb hby at_58) rfl ?_
    show Steps p.tables e below (T5.setTop (mkF m 59 #[.val (.long q1), .second, .val (.int p2), .val (.int p3), .val (.int (p2 &&& (7 : Int32))), .val (.int (1 : Int32)), .val (.int (1 : Int32)), .val (.ref b4), .val (.long (6 : Int64)), .second, .unset, .unset, .unset] [(.long ((6 : Int64) <<< ((p2 &&& (7 : Int32)) &&& 0x3f).toInt64)), (.ref b4)])) _
    refine st6.trans ?_
    show Steps p.tables e below (T6.setTop (mkF m 62 #[.val (.long q1), .second, .val (.int p2), .val (.int p3), .val (.int (p2 &&& (7 : Int32))), .val (.int (1 : Int32)), .val (.int (1 : Int32)), .val (.ref b4), .val (.long (6 : Int64)), .second, .unset, .unset, .unset] [])) _
    refine X6.ldc2Long hx hown (mvT hZ (hw _ (List.mem_of_getElem? (i := 28) rfl))) (g := (mkF m 62 #[.val (.long q1), .second, .val (.int p2), .val (.int p3), .val (.int (p2 &&& (7 : Int32))), .val (.int (1 : Int32)), .val (.int (1 : Int32)), .val (.ref b4), .val (.long (6 : Int64)), .second, .unset, .unset, .unset] [])) rfl (hb hby at_62) _ ?_
    show Steps p.tables e below (T6.setTop (mkF m 65 #[.val (.long q1), .second, .val (.int p2), .val (.int p3), .val (.int (p2 &&& (7 : Int32))), .val (.int (1 : Int32)), .val (.int (1 : Int32)), .val (.ref b4), .val (.long (6 : Int64)), .second, .unset, .unset, .unset] [(.long (6 : Int64))])) _
    refine XS.iload X6.here hx rfl (hb hby at_65) rfl ?_
    show Steps p.tables e below (T6.setTop (mkF m 67 #[.val (.long q1), .second, .val (.int p2), .val (.int p3), .val (.int (p2 &&& (7 : Int32))), .val (.int (1 : Int32)), .val (.int (1 : Int32)), .val (.ref b4), .val (.long (6 : Int64)), .second, .unset, .unset, .unset] [(.int (p2 &&& (7 : Int32))), (.long (6 : Int64))])) _
    refine XS.lshl X6.here hx rfl (hb hby at_67) rfl ?_
    show Steps p.tables e below (T6.setTop (mkF m 68 #[.val (.long q1), .second, .val (.int p2), .val (.int p3), .val (.int (p2 &&& (7 : Int32))), .val (.int (1 : Int32)), .val (.int (1 : Int32)), .val (.ref b4), .val (.long (6 : Int64)), .second, .unset, .unset, .unset] [(.long ((6 : Int64) <<< ((p2 &&& (7 : Int32)) &&& 0x3f).toInt64))])) _
    refine XS.lstore X6.here hx rfl (hb hby at_68) rfl (l' := #[.val (.long q1), .second, .val (.int p2), .val (.int p3), .val (.int (p2 &&& (7 : Int32))), .val (.int (1 : Int32)), .val (.int (1 : Int32)), .val (.ref b4), .val (.long ((6 : Int64) <<< ((p2 &&& (7 : Int32)) &&& 0x3f).toInt64)), .second, .unset, .unset, .unset]) rfl ?_
    show Steps p.tables e below (T6.setTop (mkF m 70 #[.val (.long q1), .second, .val (.int p2), .val (.int p3), .val (.int (p2 &&& (7 : Int32))), .val (.int (1 : Int32)), .val (.int (1 : Int32)), .val (.ref b4), .val (.long ((6 : Int64) <<< ((p2 &&& (7 : Int32)) &&& 0x3f).toInt64)), .second, .unset, .unset, .unset] [])) _
    refine XS.iload X6.here hx rfl (hb hby at_70) rfl ?_
    show Steps p.tables e below (T6.setTop (mkF m 72 #[.val (.long q1), .second, .val (.int p2), .val (.int p3), .val (.int (p2 &&& (7 : Int32))), .val (.int (1 : Int32)), .val (.int (1 : Int32)), .val (.ref b4), .val (.long ((6 : Int64) <<< ((p2 &&& (7 : Int32)) &&& 0x3f).toInt64)), .second, .unset, .unset, .unset] [(.int (1 : Int32))])) _
    refine XS.ifNo X6.here hx rfl (hb hby at_72) rfl ((if0 _ _).trans (feq hc72).1) ?_
    show Steps p.tables e below (T6.setTop (mkF m 75 #[.val (.long q1), .second, .val (.int p2), .val (.int p3), .val (.int (p2 &&& (7 : Int32))), .val (.int (1 : Int32)), .val (.int (1 : Int32)), .val (.ref b4), .val (.long ((6 : Int64) <<< ((p2 &&& (7 : Int32)) &&& 0x3f).toInt64)), .second, .unset, .unset, .unset] [])) _
    refine XS.lloadN X6.here hx rfl (hb hby at_75) rfl ?_
    show Steps p.tables e below (T6.setTop (mkF m 76 #[.val (.long q1), .second, .val (.int p2), .val (.int p3), .val (.int (p2 &&& (7 : Int32))), .val (.int (1 : Int32)), .val (.int (1 : Int32)), .val (.ref b4), .val (.long ((6 : Int64) <<< ((p2 &&& (7 : Int32)) &&& 0x3f).toInt64)), .second, .unset, .unset, .unset] [(.long q1)])) _
    refine XS.goto X6.here hx rfl (pc0 := 76) (pc' := 87) rfl (hb hby at_76) (by decide) (by decide) ?_
    show Steps p.tables e below (T6.setTop (mkF m 87 #[.val (.long q1), .second, .val (.int p2), .val (.int p3), .val (.int (p2 &&& (7 : Int32))), .val (.int (1 : Int32)), .val (.int (1 : Int32)), .val (.ref b4), .val (.long ((6 : Int64) <<< ((p2 &&& (7 : Int32)) &&& 0x3f).toInt64)), .second, .unset, .unset, .unset] [(.long q1)])) _
    refine XS.lstore X6.here hx rfl (hb hby at_87) rfl (l' := #[.val (.long q1), .second, .val (.int p2), .val (.int p3), .val (.int (p2 &&& (7 : Int32))), .val (.int (1 : Int32)), .val (.int (1 : Int32)), .val (.ref b4), .val (.long ((6 : Int64) <<< ((p2 &&& (7 : Int32)) &&& 0x3f).toInt64)), .second, .val (.long q1), .second, .unset]) rfl ?_
    show Steps p.tables e below (T6.setTop (mkF m 89 #[.val (.long q1), .second, .val (.int p2), .val (.int p3), .val (.int (p2 &&& (7 : Int32))), .val (.int (1 : Int32)), .val (.int (1 : Int32)), .val (.ref b4), .val (.long ((6 : Int64) <<< ((p2 &&& (7 : Int32)) &&& 0x3f).toInt64)), .second, .val (.long q1), .second, .unset] [])) _
    refine XS.lload X6.here hx rfl (hb hby at_89) rfl ?_
    show Steps p.tables e below (T6.setTop (mkF m 91 #[.val (.long q1), .second, .val (.int p2), .val (.int p3), .val (.int (p2 &&& (7 : Int32))), .val (.int (1 : Int32)), .val (.int (1 : Int32)), .val (.ref b4), .val (.long ((6 : Int64) <<< ((p2 &&& (7 : Int32)) &&& 0x3f).toInt64)), .second, .val (.long q1), .second, .unset] [(.long q1)])) _
    refine XS.lload X6.here hx rfl (hb hby at_91) rfl ?_
    show Steps p.tables e below (T6.setTop (mkF m 93 #[.val (.long q1), .second, .val (.int p2), .val (.int p3), .val (.int (p2 &&& (7 : Int32))), .val (.int (1 : Int32)), .val (.int (1 : Int32)), .val (.ref b4), .val (.long ((6 : Int64) <<< ((p2 &&& (7 : Int32)) &&& 0x3f).toInt64)), .second, .val (.long q1), .second, .unset] [(.long ((6 : Int64) <<< ((p2 &&& (7 : Int32)) &&& 0x3f).toInt64)), (.long q1)])) _
    refine XS.lcmp X6.here hx rfl (hb hby at_93) rfl ?_
    show Steps p.tables e below (T6.setTop (mkF m 94 #[.val (.long q1), .second, .val (.int p2), .val (.int p3), .val (.int (p2 &&& (7 : Int32))), .val (.int (1 : Int32)), .val (.int (1 : Int32)), .val (.ref b4), .val (.long ((6 : Int64) <<< ((p2 &&& (7 : Int32)) &&& 0x3f).toInt64)), .second, .val (.long q1), .second, .unset] [(.int (lcmpW q1 ((6 : Int64) <<< ((p2 &&& (7 : Int32)) &&& 0x3f).toInt64)))])) _
    refine XS.ifYes X6.here hx rfl (pc0 := 94) (pc' := 101) rfl (hb hby at_94) rfl ((if0 _ _).trans (tlt hc94).2.2.1) (by decide) (by decide) ?_
    show Steps p.tables e below (T6.setTop (mkF m 101 #[.val (.long q1), .second, .val (.int p2), .val (.int p3), .val (.int (p2 &&& (7 : Int32))), .val (.int (1 : Int32)), .val (.int (1 : Int32)), .val (.ref b4), .val (.long ((6 : Int64) <<< ((p2 &&& (7 : Int32)) &&& 0x3f).toInt64)), .second, .val (.long q1), .second, .unset] [])) _
    refine XS.iconst X6.here hx rfl (hb hby at_101) ?_
    show Steps p.tables e below (T6.setTop (mkF m 102 #[.val (.long q1), .second, .val (.int p2), .val (.int p3), .val (.int (p2 &&& (7 : Int32))), .val (.int (1 : Int32)), .val (.int (1 : Int32)), .val (.ref b4), .val (.long ((6 : Int64) <<< ((p2 &&& (7 : Int32)) &&& 0x3f).toInt64)), .second, .val (.long q1), .second, .unset] [(.int (0 : Int32))])) _
    refine XS.istore X6.here hx rfl (hb hby at_102) rfl (l' := #[.val (.long q1), .second, .val (.int p2), .val (.int p3), .val (.int (p2 &&& (7 : Int32))), .val (.int (1 : Int32)), .val (.int (1 : Int32)), .val (.ref b4), .val (.long ((6 : Int64) <<< ((p2 &&& (7 : Int32)) &&& 0x3f).toInt64)), .second, .val (.long q1), .second, .val (.int (0 : Int32))]) rfl ?_
    show Steps p.tables e below (T6.setTop (mkF m 104 #[.val (.long q1), .second, .val (.int p2), .val (.int p3), .val (.int (p2 &&& (7 : Int32))), .val (.int (1 : Int32)), .val (.int (1 : Int32)), .val (.ref b4), .val (.long ((6 : Int64) <<< ((p2 &&& (7 : Int32)) &&& 0x3f).toInt64)), .second, .val (.long q1), .second, .val (.int (0 : Int32))] [])) _
    refine XS.aload X6.here hx rfl (hb hby at_104) rfl rfl ?_
    show Steps p.tables e below (T6.setTop (mkF m 106 #[.val (.long q1), .second, .val (.int p2), .val (.int p3), .val (.int (p2 &&& (7 : Int32))), .val (.int (1 : Int32)), .val (.int (1 : Int32)), .val (.ref b4), .val (.long ((6 : Int64) <<< ((p2 &&& (7 : Int32)) &&& 0x3f).toInt64)), .second, .val (.long q1), .second, .val (.int (0 : Int32))] [(.ref b4)])) _
    refine XS.lload X6.here hx rfl (hb hby at_106) rfl ?_
    show Steps p.tables e below (T6.setTop (mkF m 108 #[.val (.long q1), .second, .val (.int p2), .val (.int p3), .val (.int (p2 &&& (7 : Int32))), .val (.int (1 : Int32)), .val (.int (1 : Int32)), .val (.ref b4), .val (.long ((6 : Int64) <<< ((p2 &&& (7 : Int32)) &&& 0x3f).toInt64)), .second, .val (.long q1), .second, .val (.int (0 : Int32))] [(.long q1), (.ref b4)])) _
    refine st7.trans ?_
    show Steps p.tables e below (T7.setTop (mkF m 111 #[.val (.long q1), .second, .val (.int p2), .val (.int p3), .val (.int (p2 &&& (7 : Int32))), .val (.int (1 : Int32)), .val (.int (1 : Int32)), .val (.ref b4), .val (.long ((6 : Int64) <<< ((p2 &&& (7 : Int32)) &&& 0x3f).toInt64)), .second, .val (.long q1), .second, .val (.int (0 : Int32))] [(.int (0 : Int32))])) _
    refine XS.iload X7.here hx rfl (hb hby at_111) rfl ?_
    show Steps p.tables e below (T7.setTop (mkF m 113 #[.val (.long q1), .second, .val (.int p2), .val (.int p3), .val (.int (p2 &&& (7 : Int32))), .val (.int (1 : Int32)), .val (.int (1 : Int32)), .val (.ref b4), .val (.long ((6 : Int64) <<< ((p2 &&& (7 : Int32)) &&& 0x3f).toInt64)), .second, .val (.long q1), .second, .val (.int (0 : Int32))] [(.int (0 : Int32)), (.int (0 : Int32))])) _
    refine XS.icmpNo X7.here hx rfl (hb hby at_113) rfl (teq (rfl : (0 : Int32) = (0 : Int32))).2 ?_
    show Steps p.tables e below (T7.setTop (mkF m 116 #[.val (.long q1), .second, .val (.int p2), .val (.int p3), .val (.int (p2 &&& (7 : Int32))), .val (.int (1 : Int32)), .val (.int (1 : Int32)), .val (.ref b4), .val (.long ((6 : Int64) <<< ((p2 &&& (7 : Int32)) &&& 0x3f).toInt64)), .second, .val (.long q1), .second, .val (.int (0 : Int32))] [])) _
    refine XS.iconst X7.here hx rfl (hb hby at_116) ?_
    show Steps p.tables e below (T7.setTop (mkF m 117 #[.val (.long q1), .second, .val (.int p2), .val (.int p3), .val (.int (p2 &&& (7 : Int32))), .val (.int (1 : Int32)), .val (.int (1 : Int32)), .val (.ref b4), .val (.long ((6 : Int64) <<< ((p2 &&& (7 : Int32)) &&& 0x3f).toInt64)), .second, .val (.long q1), .second, .val (.int (0 : Int32))] [(.int (1 : Int32))])) _
    refine XS.goto X7.here hx rfl (pc0 := 117) (pc' := 121) rfl (hb hby at_117) (by decide) (by decide) ?_
    show Steps p.tables e below (T7.setTop (mkF m 121 #[.val (.long q1), .second, .val (.int p2), .val (.int p3), .val (.int (p2 &&& (7 : Int32))), .val (.int (1 : Int32)), .val (.int (1 : Int32)), .val (.ref b4), .val (.long ((6 : Int64) <<< ((p2 &&& (7 : Int32)) &&& 0x3f).toInt64)), .second, .val (.long q1), .second, .val (.int (0 : Int32))] [(.int (1 : Int32))])) _
    exact retN X7 hx (t := .boolean) Bd.returns (by simp) (hb hby at_121) hr
  · show Qz  h0 n0 _ T7.heap _
    rw [hh7]
    exact ⟨rfl, N7⟩
set_option maxRecDepth 65536 in
set_option maxHeartbeats 40000000 in
theorem rm0_ftftff (l : Launch) (Z : State) (a0 : Array Value) (hw : ∀ d ∈ tables_1, d.before a0 Z = true) (ws : List Jvm.Cond) (q1 : Int64) (p2 : Int32) (p3 : Int32) (zz : Int32) (h0 : Heap) (n0 : Nat) (Z0 : n0 ≤ h0.size) (hq : (((6 : Int64) <<< ((p2 &&& (7 : Int32)) &&& 0x3f).toInt64) = (6 : Int64) ∧ zz = (8 : Int32)) ∨ (((6 : Int64) <<< ((p2 &&& (7 : Int32)) &&& 0x3f).toInt64) = (12 : Int64) ∧ zz = (16 : Int32)) ∨ (((6 : Int64) <<< ((p2 &&& (7 : Int32)) &&& 0x3f).toInt64) = (24 : Int64) ∧ zz = (32 : Int32)) ∨ (((6 : Int64) <<< ((p2 &&& (7 : Int32)) &&& 0x3f).toInt64) = (48 : Int64) ∧ zz = (64 : Int32)) ∨ (((6 : Int64) <<< ((p2 &&& (7 : Int32)) &&& 0x3f).toInt64) = (96 : Int64) ∧ zz = (128 : Int32)) ∨ (((6 : Int64) <<< ((p2 &&& (7 : Int32)) &&& 0x3f).toInt64) = (192 : Int64) ∧ zz = (256 : Int32)) ∨ (((6 : Int64) <<< ((p2 &&& (7 : Int32)) &&& 0x3f).toInt64) = (384 : Int64) ∧ zz = (512 : Int32)) ∨ (((6 : Int64) <<< ((p2 &&& (7 : Int32)) &&& 0x3f).toInt64) = (768 : Int64) ∧ zz = (1024 : Int32))) (hcap : (((zz / (4 : Int32)) * (3 : Int32)).toInt64) = ((6 : Int64) <<< ((p2 &&& (7 : Int32)) &&& 0x3f).toInt64)) (hc9 : ¬ ((p3 &&& (2 : Int32)) = (0 : Int32))) (hc22 : (p3 &&& (1 : Int32)) = (0 : Int32)) (hc48 : ¬ ((1 : Int32) = (0 : Int32))) (hnz85 : ¬ ((4 : Int64) = (0 : Int64))) (hc94 : ¬ ((0 : Int32) < (lcmpW (((6 : Int64) <<< ((p2 &&& (7 : Int32)) &&& 0x3f).toInt64) + (q1 % (4 : Int64))) ((6 : Int64) <<< ((p2 &&& (7 : Int32)) &&& 0x3f).toInt64)))) :
    MetFree l x (head1 (Jvm.Cond.code x code maxLocals ret :: ws) room_1) (fun a U => a = #[(.long q1), (.int p2), (.int p3)] ∧ Z.Warmed39 U.vm ∧ U.heap = h0) (fun _ _ _ _ _ => True) (fun _ U o U' => ∃ v L, o = .returned v ∧ Qz  h0 n0 v U'.heap L ∧ FrameEnd U o U' L room_1.cells room_1.slots) := by
  refine MetFree.of_bodySF (plainFor_of_name pn_0) hisR ?_
  intro p e s m args below meth c s₁ Bd hml0 hP hK
  obtain ⟨rfl, hZ, hh⟩ := hP
  have hx := Bd.exec
  have hby := Bd.bytes
  have hml : c.maxLocals = 13 := hml0
  have hown : s.vm.findClass "com/example/wheredb/wheredb/storage/MemorySetHasRoomForPinLaw" = some m.cls := findClass_of_methodNamed Bd.named
  have hnm := (name_of_methodNamed Bd.named Bd.method).1
  have X0 : Stand p l e room_1 s m #[(.long q1), (.int p2), (.int p3)] below meth c s₁ [] 0 0 := Stand.of_body Bd
  have e0 : s₁.heap = h0 := by rw [← hh, Bd.state]; rfl
  have N0 := Fr.nil n0
  have pre0 : ∀ t, Steps p.tables e below (s₁.setTop (mkF m 0 #[.val (.long q1), .second, .val (.int p2), .val (.int p3), .unset, .unset, .unset, .unset, .unset, .unset, .unset, .unset, .unset] [])) t → Steps p.tables e below (s₁.setTop (entryFrame m #[(.long q1), (.int p2), (.int p3)] maxLocals)) t := fun t k => castTop (ef_0 m q1 p2 p3) k
  obtain ⟨T4, h4, X4, e4, E4, A4, D4, -, st4⟩ := newO X0 hx hZ hown (hw _ (List.mem_of_getElem? (i := 0) rfl)) (hw _ (List.mem_of_getElem? (i := 1) rfl)) (hw _ (List.mem_of_getElem? (i := 2) rfl)) e0 (g := (mkF m 32 #[.val (.long q1), .second, .val (.int p2), .val (.int p3), .val (.int (p2 &&& (7 : Int32))), .val (.int (1 : Int32)), .val (.int (0 : Int32)), .unset, .unset, .unset, .unset, .unset, .unset] [])) rfl (hb hby at_32) (by decide) (by decide)
  obtain ⟨b4, g4⟩ : ∃ z, z = h0.size := ⟨_, rfl⟩
  rw [← g4] at A4 D4 st4
  have F_chunks_b4 : Fld Z h4 b4 "com/example/wheredb/wheredb/storage/MemorySet" "chunks" "[Lcom/example/wheredb/wheredb/storage/MemorySet$Chunk;" .null := D4 (Or.inl (hw _ (List.mem_of_getElem? (i := 12) rfl))) (ty := (.array (.object "com/example/wheredb/wheredb/storage/MemorySet$Chunk"))) (by decide)
  have F_lastCells_b4 : Fld Z h4 b4 "com/example/wheredb/wheredb/storage/MemorySet" "lastCells" "[J" .null := D4 (Or.inl (hw _ (List.mem_of_getElem? (i := 15) rfl))) (ty := (.array .long)) (by decide)
  have F_slotHashes_b4 : Fld Z h4 b4 "com/example/wheredb/wheredb/storage/MemorySet" "slotHashes" "[I" .null := D4 (Or.inl (hw _ (List.mem_of_getElem? (i := 18) rfl))) (ty := (.array .int)) (by decide)
  have F_slotCells_b4 : Fld Z h4 b4 "com/example/wheredb/wheredb/storage/MemorySet" "slotCells" "[J" .null := D4 (Or.inl (hw _ (List.mem_of_getElem? (i := 20) rfl))) (ty := (.array .long)) (by decide)
  have F_slotShift_b4 : Fld Z h4 b4 "com/example/wheredb/wheredb/storage/MemorySet" "slotShift" "I" (.int (0 : Int32)) := D4 (Or.inl (hw _ (List.mem_of_getElem? (i := 27) rfl))) (ty := .int) (by decide)
  have E_b4 := A4
  have g_b4 : n0 ≤ b4 := Nat.le_trans Z0 (Nat.le_of_eq g4.symm)
  have sz_b4 : h0.size ≤ b4 := (Nat.le_trans (Keep.refl h0 []).1 (Nat.le_of_eq g4.symm))
  have K4 : Keep h0 h4 [] := (Keep.refl h0 []).ext E4
  obtain ⟨_, _, ⟨T5, L5, k5, n5⟩, -, X5, ⟨Lc5, hQ5, l5, y5, z5⟩, st5⟩ := X4.specialBack hx (y := (⟨"com/example/wheredb/wheredb/storage/MemorySet", "<init>", "()V"⟩ : MethodName)) rfl hown (mvT hZ (hw _ (List.mem_of_getElem? (i := 3) rfl))) (mvT hZ (hw _ (List.mem_of_getElem? (i := 4) rfl))) (mvT hZ (hw _ (List.mem_of_getElem? (i := 5) rfl))) (by decide) (backOf (W := 1) (rm1 l Z a0 hw [] b4 .null .null .null .null (.int (0 : Int32)) h4 n0 (Nat.le_trans Z0 E4.1) E_b4 F_chunks_b4 g_b4 F_lastCells_b4 F_slotHashes_b4 F_slotCells_b4 F_slotShift_b4) hZ (hw _ (List.mem_of_getElem? (i := 5) rfl)) (hw _ (List.mem_of_getElem? (i := 2) rfl)) (by decide) (by decide)) (g := (mkF m 36 #[.val (.long q1), .second, .val (.int p2), .val (.int p3), .val (.int (p2 &&& (7 : Int32))), .val (.int (1 : Int32)), .val (.int (0 : Int32)), .unset, .unset, .unset, .unset, .unset, .unset] [(.ref b4), (.ref b4)])) rfl (by rw [hml]; rfl) (Steps.refl _) (a := b4) (argsL := []) (rest := [(.ref b4)]) (lenOf pd_0_0 rfl) rfl (by show 2 * 0 + _ ≤ _; exact Nat.le_of_eq rfl) (hb hby at_36) (fun _ _ => ⟨rfl, e4, (by decide : 1 + 4 ≤ _), (by decide : 7 + 24 ≤ _)⟩)
  dsimp only [Pt.U, Pt.locs, Pt.cells, Pt.slots] at X5 l5 y5 z5 st5 hQ5
  subst l5 y5 z5
  obtain ⟨rfl, N5q, Kc5, Ec5, bh5, bc5, kb5, rs5, Fh5, Fs5, Ft5, Vb5⟩ := hQ5
  have N5 := Fr.app N0 N5q
  have K5 : Keep h0 T5.heap [] := K4.trans Kc5 (allS (Or.inr sz_b4) all0)
  obtain ⟨cq6, kq6, q6a, q6b, q6c⟩ := isOf hZ rfl Ec5
  obtain ⟨_, _, ⟨T6, L6, k6, n6⟩, -, X6, ⟨Lc6, hQ6, l6, y6, z6⟩, st6⟩ := X5.virtualBack hx (y := (⟨"com/example/wheredb/wheredb/storage/MemorySet", "reserve", "(J)V"⟩ : MethodName)) (z := (⟨"com/example/wheredb/wheredb/storage/MemorySet", "reserve", "(J)V"⟩ : MethodName)) hown (mvT hZ (hw _ (List.mem_of_getElem? (i := 34) rfl))) (mvT hZ (hw _ (List.mem_of_getElem? (i := 35) rfl))) (notFace_of_selects (args := #[]) (mvT hZ (hw _ (List.mem_of_getElem? (i := 37) rfl)))) (mvT hZ (hw _ (List.mem_of_getElem? (i := 37) rfl))) (mvT hZ (hw _ (List.mem_of_getElem? (i := 36) rfl))) (by decide) (backOf (W := 0) (rm5 l Z a0 hw [] b4 ((6 : Int64) <<< ((p2 &&& (7 : Int32)) &&& 0x3f).toInt64) bh5 kb5 bc5 rs5 zz T5.heap n0 (Nat.le_trans (Nat.le_trans Z0 E4.1) Kc5.1) Fh5 Ec5 Fs5 Ft5 g_b4 Vb5 hq) hZ (hw _ (List.mem_of_getElem? (i := 38) rfl)) (hw _ (List.mem_of_getElem? (i := 2) rfl)) (by decide) (by decide)) q6a q6c (g := (mkF m 59 #[.val (.long q1), .second, .val (.int p2), .val (.int p3), .val (.int (p2 &&& (7 : Int32))), .val (.int (1 : Int32)), .val (.int (0 : Int32)), .val (.ref b4), .val (.long (6 : Int64)), .second, .unset, .unset, .unset] [(.long ((6 : Int64) <<< ((p2 &&& (7 : Int32)) &&& 0x3f).toInt64)), (.ref b4)])) rfl (by rw [hml]; rfl) (Steps.refl _) (argsL := [(.long ((6 : Int64) <<< ((p2 &&& (7 : Int32)) &&& 0x3f).toInt64))]) (rest := []) (lenOf pd_0_3 rfl) rfl (by show 2 * 0 + _ ≤ _; exact Nat.le_of_eq rfl) (hb hby at_59) (fun _ _ => ⟨rfl, rfl, (by decide : 5 + 2 ≤ _), (by decide : 31 + 2048 ≤ _)⟩)
  dsimp only [Pt.U, Pt.locs, Pt.cells, Pt.slots] at X6 l6 y6 z6 st6 hQ6
  subst l6 y6 z6
  obtain ⟨rfl, N6q, Kc6, Ec6, bh6, kb6, Fh6, Vb6⟩ := hQ6
  have N6 := Fr.app N5 N6q
  have K6 : Keep h0 T6.heap [] := K5.trans Kc6 (allS (Or.inr sz_b4) all0)
  obtain ⟨cl_c7, Ar_c7, -, S_c7, N_c7, -, -⟩ := Vb6
  obtain ⟨cq7, kq7, q7a, q7b, q7c⟩ := isOf hZ rfl Ec6
  obtain ⟨_, _, ⟨T7, L7, k7, n7⟩, -, X7, ⟨Lc7, hQ7, l7, y7, z7⟩, st7⟩ := X6.virtualBack hx (y := (⟨"com/example/wheredb/wheredb/storage/MemorySet", "hasRoomFor", "(J)Z"⟩ : MethodName)) (z := (⟨"com/example/wheredb/wheredb/storage/MemorySet", "hasRoomFor", "(J)Z"⟩ : MethodName)) hown (mvT hZ (hw _ (List.mem_of_getElem? (i := 29) rfl))) (mvT hZ (hw _ (List.mem_of_getElem? (i := 30) rfl))) (notFace_of_selects (args := #[]) (mvT hZ (hw _ (List.mem_of_getElem? (i := 32) rfl)))) (mvT hZ (hw _ (List.mem_of_getElem? (i := 32) rfl))) (mvT hZ (hw _ (List.mem_of_getElem? (i := 31) rfl))) (by decide) (backOf (W := 0) (rm4_f l Z a0 hw [] b4 (((6 : Int64) <<< ((p2 &&& (7 : Int32)) &&& 0x3f).toInt64) + (q1 % (4 : Int64))) bh6 cl_c7 zz T6.heap n0 (Nat.le_trans (Nat.le_trans (Nat.le_trans Z0 E4.1) Kc5.1) Kc6.1) Fh6 Ar_c7 S_c7 N_c7 (by decide) (by rw [hcap]; exact hc94)) hZ (hw _ (List.mem_of_getElem? (i := 33) rfl)) (hw _ (List.mem_of_getElem? (i := 2) rfl)) (by decide) (by decide)) q7a q7c (g := (mkF m 108 #[.val (.long q1), .second, .val (.int p2), .val (.int p3), .val (.int (p2 &&& (7 : Int32))), .val (.int (1 : Int32)), .val (.int (0 : Int32)), .val (.ref b4), .val (.long ((6 : Int64) <<< ((p2 &&& (7 : Int32)) &&& 0x3f).toInt64)), .second, .val (.long (((6 : Int64) <<< ((p2 &&& (7 : Int32)) &&& 0x3f).toInt64) + (q1 % (4 : Int64)))), .second, .val (.int (1 : Int32))] [(.long (((6 : Int64) <<< ((p2 &&& (7 : Int32)) &&& 0x3f).toInt64) + (q1 % (4 : Int64)))), (.ref b4)])) rfl (by rw [hml]; rfl) (Steps.refl _) (argsL := [(.long (((6 : Int64) <<< ((p2 &&& (7 : Int32)) &&& 0x3f).toInt64) + (q1 % (4 : Int64))))]) (rest := []) (lenOf pd_0_2 rfl) rfl (by show 2 * 0 + _ ≤ _; exact Nat.le_of_eq rfl) (hb hby at_108) (fun _ _ => ⟨rfl, rfl, (by decide : 7 + 0 ≤ _), (by decide : 2079 + 0 ≤ _)⟩)
  dsimp only [Pt.U, Pt.locs, Pt.cells, Pt.slots] at X7 l7 y7 z7 st7 hQ7
  subst l7 y7 z7
  obtain ⟨rfl, N7q, hh7⟩ := hQ7
  have N7 := Fr.app N6 N7q
  obtain ⟨fs, hr, hrun, hended, hW, hsame⟩ := X7.leave (v := some (.int (1 : Int32))) (fun h => by rw [Bd.returns] at h; cases h)
  refine ⟨_, _, pre0 _ ?_, hrun, hended, _, _, rfl, ?_, ⟨_, rfl⟩, hW, hsame.mono (by decide) (by decide)⟩
  · show Steps p.tables e below (s₁.setTop (mkF m 0 #[.val (.long q1), .second, .val (.int p2), .val (.int p3), .unset, .unset, .unset, .unset, .unset, .unset, .unset, .unset, .unset] [])) _
    refine XS.iloadN X0.here hx rfl (hb hby at_0) rfl ?_
    show Steps p.tables e below (s₁.setTop (mkF m 1 #[.val (.long q1), .second, .val (.int p2), .val (.int p3), .unset, .unset, .unset, .unset, .unset, .unset, .unset, .unset, .unset] [(.int p2)])) _
    refine XS.bipush X0.here hx rfl (hb hby at_1) ?_
    show Steps p.tables e below (s₁.setTop (mkF m 3 #[.val (.long q1), .second, .val (.int p2), .val (.int p3), .unset, .unset, .unset, .unset, .unset, .unset, .unset, .unset, .unset] [(.int (7 : Int32)), (.int p2)])) _
    refine XS.iand X0.here hx rfl (hb hby at_3) rfl ?_
    show Steps p.tables e below (s₁.setTop (mkF m 4 #[.val (.long q1), .second, .val (.int p2), .val (.int p3), .unset, .unset, .unset, .unset, .unset, .unset, .unset, .unset, .unset] [(.int (p2 &&& (7 : Int32)))])) _
    refine XS.istore X0.here hx rfl (hb hby at_4) rfl (l' := #[.val (.long q1), .second, .val (.int p2), .val (.int p3), .val (.int (p2 &&& (7 : Int32))), .unset, .unset, .unset, .unset, .unset, .unset, .unset, .unset]) rfl ?_
    show Steps p.tables e below (s₁.setTop (mkF m 6 #[.val (.long q1), .second, .val (.int p2), .val (.int p3), .val (.int (p2 &&& (7 : Int32))), .unset, .unset, .unset, .unset, .unset, .unset, .unset, .unset] [])) _
    refine XS.iloadN X0.here hx rfl (hb hby at_6) rfl ?_
    show Steps p.tables e below (s₁.setTop (mkF m 7 #[.val (.long q1), .second, .val (.int p2), .val (.int p3), .val (.int (p2 &&& (7 : Int32))), .unset, .unset, .unset, .unset, .unset, .unset, .unset, .unset] [(.int p3)])) _
    refine XS.iconst X0.here hx rfl (hb hby at_7) ?_
    show Steps p.tables e below (s₁.setTop (mkF m 8 #[.val (.long q1), .second, .val (.int p2), .val (.int p3), .val (.int (p2 &&& (7 : Int32))), .unset, .unset, .unset, .unset, .unset, .unset, .unset, .unset] [(.int (2 : Int32)), (.int p3)])) _
    refine XS.iand X0.here hx rfl (hb hby at_8) rfl ?_
    show Steps p.tables e below (s₁.setTop (mkF m 9 #[.val (.long q1), .second, .val (.int p2), .val (.int p3), .val (.int (p2 &&& (7 : Int32))), .unset, .unset, .unset, .unset, .unset, .unset, .unset, .unset] [(.int (p3 &&& (2 : Int32)))])) _
    refine XS.ifNo X0.here hx rfl (hb hby at_9) rfl ((if0 _ _).trans (feq hc9).1) ?_
    show Steps p.tables e below (s₁.setTop (mkF m 12 #[.val (.long q1), .second, .val (.int p2), .val (.int p3), .val (.int (p2 &&& (7 : Int32))), .unset, .unset, .unset, .unset, .unset, .unset, .unset, .unset] [])) _
    refine XS.iconst X0.here hx rfl (hb hby at_12) ?_
    show Steps p.tables e below (s₁.setTop (mkF m 13 #[.val (.long q1), .second, .val (.int p2), .val (.int p3), .val (.int (p2 &&& (7 : Int32))), .unset, .unset, .unset, .unset, .unset, .unset, .unset, .unset] [(.int (1 : Int32))])) _
    refine XS.goto X0.here hx rfl (pc0 := 13) (pc' := 17) rfl (hb hby at_13) (by decide) (by decide) ?_
    show Steps p.tables e below (s₁.setTop (mkF m 17 #[.val (.long q1), .second, .val (.int p2), .val (.int p3), .val (.int (p2 &&& (7 : Int32))), .unset, .unset, .unset, .unset, .unset, .unset, .unset, .unset] [(.int (1 : Int32))])) _
    refine XS.istore X0.here hx rfl (hb hby at_17) rfl (l' := #[.val (.long q1), .second, .val (.int p2), .val (.int p3), .val (.int (p2 &&& (7 : Int32))), .val (.int (1 : Int32)), .unset, .unset, .unset, .unset, .unset, .unset, .unset]) rfl ?_
    show Steps p.tables e below (s₁.setTop (mkF m 19 #[.val (.long q1), .second, .val (.int p2), .val (.int p3), .val (.int (p2 &&& (7 : Int32))), .val (.int (1 : Int32)), .unset, .unset, .unset, .unset, .unset, .unset, .unset] [])) _
    refine XS.iloadN X0.here hx rfl (hb hby at_19) rfl ?_
    show Steps p.tables e below (s₁.setTop (mkF m 20 #[.val (.long q1), .second, .val (.int p2), .val (.int p3), .val (.int (p2 &&& (7 : Int32))), .val (.int (1 : Int32)), .unset, .unset, .unset, .unset, .unset, .unset, .unset] [(.int p3)])) _
    refine XS.iconst X0.here hx rfl (hb hby at_20) ?_
    show Steps p.tables e below (s₁.setTop (mkF m 21 #[.val (.long q1), .second, .val (.int p2), .val (.int p3), .val (.int (p2 &&& (7 : Int32))), .val (.int (1 : Int32)), .unset, .unset, .unset, .unset, .unset, .unset, .unset] [(.int (1 : Int32)), (.int p3)])) _
    refine XS.iand X0.here hx rfl (hb hby at_21) rfl ?_
    show Steps p.tables e below (s₁.setTop (mkF m 22 #[.val (.long q1), .second, .val (.int p2), .val (.int p3), .val (.int (p2 &&& (7 : Int32))), .val (.int (1 : Int32)), .unset, .unset, .unset, .unset, .unset, .unset, .unset] [(.int (p3 &&& (1 : Int32)))])) _
    refine XS.ifYes X0.here hx rfl (pc0 := 22) (pc' := 29) rfl (hb hby at_22) rfl ((if0 _ _).trans (teq hc22).1) (by decide) (by decide) ?_
    show Steps p.tables e below (s₁.setTop (mkF m 29 #[.val (.long q1), .second, .val (.int p2), .val (.int p3), .val (.int (p2 &&& (7 : Int32))), .val (.int (1 : Int32)), .unset, .unset, .unset, .unset, .unset, .unset, .unset] [])) _
    refine XS.iconst X0.here hx rfl (hb hby at_29) ?_
    show Steps p.tables e below (s₁.setTop (mkF m 30 #[.val (.long q1), .second, .val (.int p2), .val (.int p3), .val (.int (p2 &&& (7 : Int32))), .val (.int (1 : Int32)), .unset, .unset, .unset, .unset, .unset, .unset, .unset] [(.int (0 : Int32))])) _
    refine XS.istore X0.here hx rfl (hb hby at_30) rfl (l' := #[.val (.long q1), .second, .val (.int p2), .val (.int p3), .val (.int (p2 &&& (7 : Int32))), .val (.int (1 : Int32)), .val (.int (0 : Int32)), .unset, .unset, .unset, .unset, .unset, .unset]) rfl ?_
    show Steps p.tables e below (s₁.setTop (mkF m 32 #[.val (.long q1), .second, .val (.int p2), .val (.int p3), .val (.int (p2 &&& (7 : Int32))), .val (.int (1 : Int32)), .val (.int (0 : Int32)), .unset, .unset, .unset, .unset, .unset, .unset] [])) _
    refine st4 _ ?_
    show Steps p.tables e below (T4.setTop (mkF m 35 #[.val (.long q1), .second, .val (.int p2), .val (.int p3), .val (.int (p2 &&& (7 : Int32))), .val (.int (1 : Int32)), .val (.int (0 : Int32)), .unset, .unset, .unset, .unset, .unset, .unset] [(.ref b4)])) _
    refine XS.dup X4.here hx rfl (hb hby at_35) rfl rfl ?_
    show Steps p.tables e below (T4.setTop (mkF m 36 #[.val (.long q1), .second, .val (.int p2), .val (.int p3), .val (.int (p2 &&& (7 : Int32))), .val (.int (1 : Int32)), .val (.int (0 : Int32)), .unset, .unset, .unset, .unset, .unset, .unset] [(.ref b4), (.ref b4)])) _
    refine st5.trans ?_
    show Steps p.tables e below (T5.setTop (mkF m 39 #[.val (.long q1), .second, .val (.int p2), .val (.int p3), .val (.int (p2 &&& (7 : Int32))), .val (.int (1 : Int32)), .val (.int (0 : Int32)), .unset, .unset, .unset, .unset, .unset, .unset] [(.ref b4)])) _
    refine XS.astore X5.here hx rfl (hb hby at_39) rfl rfl (l' := #[.val (.long q1), .second, .val (.int p2), .val (.int p3), .val (.int (p2 &&& (7 : Int32))), .val (.int (1 : Int32)), .val (.int (0 : Int32)), .val (.ref b4), .unset, .unset, .unset, .unset, .unset]) rfl ?_
    show Steps p.tables e below (T5.setTop (mkF m 41 #[.val (.long q1), .second, .val (.int p2), .val (.int p3), .val (.int (p2 &&& (7 : Int32))), .val (.int (1 : Int32)), .val (.int (0 : Int32)), .val (.ref b4), .unset, .unset, .unset, .unset, .unset] [])) _
    refine X5.ldc2Long hx hown (mvT hZ (hw _ (List.mem_of_getElem? (i := 28) rfl))) (g := (mkF m 41 #[.val (.long q1), .second, .val (.int p2), .val (.int p3), .val (.int (p2 &&& (7 : Int32))), .val (.int (1 : Int32)), .val (.int (0 : Int32)), .val (.ref b4), .unset, .unset, .unset, .unset, .unset] [])) rfl (hb hby at_41) _ ?_
    show Steps p.tables e below (T5.setTop (mkF m 44 #[.val (.long q1), .second, .val (.int p2), .val (.int p3), .val (.int (p2 &&& (7 : Int32))), .val (.int (1 : Int32)), .val (.int (0 : Int32)), .val (.ref b4), .unset, .unset, .unset, .unset, .unset] [(.long (6 : Int64))])) _
    refine XS.lstore X5.here hx rfl (hb hby at_44) rfl (l' := #[.val (.long q1), .second, .val (.int p2), .val (.int p3), .val (.int (p2 &&& (7 : Int32))), .val (.int (1 : Int32)), .val (.int (0 : Int32)), .val (.ref b4), .val (.long (6 : Int64)), .second, .unset, .unset, .unset]) rfl ?_
    show Steps p.tables e below (T5.setTop (mkF m 46 #[.val (.long q1), .second, .val (.int p2), .val (.int p3), .val (.int (p2 &&& (7 : Int32))), .val (.int (1 : Int32)), .val (.int (0 : Int32)), .val (.ref b4), .val (.long (6 : Int64)), .second, .unset, .unset, .unset] [])) _
    refine XS.iload X5.here hx rfl (hb hby at_46) rfl ?_
    show Steps p.tables e below (T5.setTop (mkF m 48 #[.val (.long q1), .second, .val (.int p2), .val (.int p3), .val (.int (p2 &&& (7 : Int32))), .val (.int (1 : Int32)), .val (.int (0 : Int32)), .val (.ref b4), .val (.long (6 : Int64)), .second, .unset, .unset, .unset] [(.int (1 : Int32))])) _
    refine XS.ifNo X5.here hx rfl (hb hby at_48) rfl ((if0 _ _).trans (feq hc48).1) ?_
    show Steps p.tables e below (T5.setTop (mkF m 51 #[.val (.long q1), .second, .val (.int p2), .val (.int p3), .val (.int (p2 &&& (7 : Int32))), .val (.int (1 : Int32)), .val (.int (0 : Int32)), .val (.ref b4), .val (.long (6 : Int64)), .second, .unset, .unset, .unset] [])) _
    refine XS.aload X5.here hx rfl (hb hby at_51) rfl rfl ?_
    show Steps p.tables e below (T5.setTop (mkF m 53 #[.val (.long q1), .second, .val (.int p2), .val (.int p3), .val (.int (p2 &&& (7 : Int32))), .val (.int (1 : Int32)), .val (.int (0 : Int32)), .val (.ref b4), .val (.long (6 : Int64)), .second, .unset, .unset, .unset] [(.ref b4)])) _
    refine X5.ldc2Long hx hown (mvT hZ (hw _ (List.mem_of_getElem? (i := 28) rfl))) (g := (mkF m 53 #[.val (.long q1), .second, .val (.int p2), .val (.int p3), .val (.int (p2 &&& (7 : Int32))), .val (.int (1 : Int32)), .val (.int (0 : Int32)), .val (.ref b4), .val (.long (6 : Int64)), .second, .unset, .unset, .unset] [(.ref b4)])) rfl (hb hby at_53) _ ?_
    show Steps p.tables e below (T5.setTop (mkF m 56 #[.val (.long q1), .second, .val (.int p2), .val (.int p3), .val (.int (p2 &&& (7 : Int32))), .val (.int (1 : Int32)), .val (.int (0 : Int32)), .val (.ref b4), .val (.long (6 : Int64)), .second, .unset, .unset, .unset] [(.long (6 : Int64)), (.ref b4)])) _
    refine XS.iload X5.here hx rfl (hb hby at_56) rfl ?_
    show Steps p.tables e below (T5.setTop (mkF m 58 #[.val (.long q1), .second, .val (.int p2), .val (.int p3), .val (.int (p2 &&& (7 : Int32))), .val (.int (1 : Int32)), .val (.int (0 : Int32)), .val (.ref b4), .val (.long (6 : Int64)), .second, .unset, .unset, .unset] [(.int (p2 &&& (7 : Int32))), (.long (6 : Int64)), (.ref b4)])) _
    refine XS.lshl X5.here hx rfl (hb hby at_58) rfl ?_
    show Steps p.tables e below (T5.setTop (mkF m 59 #[.val (.long q1), .second, .val (.int p2), .val (.int p3), .val (.int (p2 &&& (7 : Int32))), .val (.int (1 : Int32)), .val (.int (0 : Int32)), .val (.ref b4), .val (.long (6 : Int64)), .second, .unset, .unset, .unset] [(.long ((6 : Int64) <<< ((p2 &&& (7 : Int32)) &&& 0x3f).toInt64)), (.ref b4)])) _
    refine st6.trans ?_
    show Steps p.tables e below (T6.setTop (mkF m 62 #[.val (.long q1), .second, .val (.int p2), .val (.int p3), .val (.int (p2 &&& (7 : Int32))), .val (.int (1 : Int32)), .val (.int (0 : Int32)), .val (.ref b4), .val (.long (6 : Int64)), .second, .unset, .unset, .unset] [])) _
    refine X6.ldc2Long hx hown (mvT hZ (hw _ (List.mem_of_getElem? (i := 28) rfl))) (g := (mkF m 62 #[.val (.long q1), .second, .val (.int p2), .val (.int p3), .val (.int (p2 &&& (7 : Int32))), .val (.int (1 : Int32)), .val (.int (0 : Int32)), .val (.ref b4), .val (.long (6 : Int64)), .second, .unset, .unset, .unset] [])) rfl (hb hby at_62) _ ?_
    show Steps p.tables e below (T6.setTop (mkF m 65 #[.val (.long q1), .second, .val (.int p2), .val (.int p3), .val (.int (p2 &&& (7 : Int32))), .val (.int (1 : Int32)), .val (.int (0 : Int32)), .val (.ref b4), .val (.long (6 : Int64)), .second, .unset, .unset, .unset] [(.long (6 : Int64))])) _
    refine XS.iload X6.here hx rfl (hb hby at_65) rfl ?_
    show Steps p.tables e below (T6.setTop (mkF m 67 #[.val (.long q1), .second, .val (.int p2), .val (.int p3), .val (.int (p2 &&& (7 : Int32))), .val (.int (1 : Int32)), .val (.int (0 : Int32)), .val (.ref b4), .val (.long (6 : Int64)), .second, .unset, .unset, .unset] [(.int (p2 &&& (7 : Int32))), (.long (6 : Int64))])) _
    refine XS.lshl X6.here hx rfl (hb hby at_67) rfl ?_
    show Steps p.tables e below (T6.setTop (mkF m 68 #[.val (.long q1), .second, .val (.int p2), .val (.int p3), .val (.int (p2 &&& (7 : Int32))), .val (.int (1 : Int32)), .val (.int (0 : Int32)), .val (.ref b4), .val (.long (6 : Int64)), .second, .unset, .unset, .unset] [(.long ((6 : Int64) <<< ((p2 &&& (7 : Int32)) &&& 0x3f).toInt64))])) _
    refine XS.lstore X6.here hx rfl (hb hby at_68) rfl (l' := #[.val (.long q1), .second, .val (.int p2), .val (.int p3), .val (.int (p2 &&& (7 : Int32))), .val (.int (1 : Int32)), .val (.int (0 : Int32)), .val (.ref b4), .val (.long ((6 : Int64) <<< ((p2 &&& (7 : Int32)) &&& 0x3f).toInt64)), .second, .unset, .unset, .unset]) rfl ?_
    show Steps p.tables e below (T6.setTop (mkF m 70 #[.val (.long q1), .second, .val (.int p2), .val (.int p3), .val (.int (p2 &&& (7 : Int32))), .val (.int (1 : Int32)), .val (.int (0 : Int32)), .val (.ref b4), .val (.long ((6 : Int64) <<< ((p2 &&& (7 : Int32)) &&& 0x3f).toInt64)), .second, .unset, .unset, .unset] [])) _
    refine XS.iload X6.here hx rfl (hb hby at_70) rfl ?_
    show Steps p.tables e below (T6.setTop (mkF m 72 #[.val (.long q1), .second, .val (.int p2), .val (.int p3), .val (.int (p2 &&& (7 : Int32))), .val (.int (1 : Int32)), .val (.int (0 : Int32)), .val (.ref b4), .val (.long ((6 : Int64) <<< ((p2 &&& (7 : Int32)) &&& 0x3f).toInt64)), .second, .unset, .unset, .unset] [(.int (0 : Int32))])) _
    refine XS.ifYes X6.here hx rfl (pc0 := 72) (pc' := 79) rfl (hb hby at_72) rfl ((if0 _ _).trans (teq (rfl : (0 : Int32) = (0 : Int32))).1) (by decide) (by decide) ?_
    show Steps p.tables e below (T6.setTop (mkF m 79 #[.val (.long q1), .second, .val (.int p2), .val (.int p3), .val (.int (p2 &&& (7 : Int32))), .val (.int (1 : Int32)), .val (.int (0 : Int32)), .val (.ref b4), .val (.long ((6 : Int64) <<< ((p2 &&& (7 : Int32)) &&& 0x3f).toInt64)), .second, .unset, .unset, .unset] [])) _
    refine XS.lload X6.here hx rfl (hb hby at_79) rfl ?_
    show Steps p.tables e below (T6.setTop (mkF m 81 #[.val (.long q1), .second, .val (.int p2), .val (.int p3), .val (.int (p2 &&& (7 : Int32))), .val (.int (1 : Int32)), .val (.int (0 : Int32)), .val (.ref b4), .val (.long ((6 : Int64) <<< ((p2 &&& (7 : Int32)) &&& 0x3f).toInt64)), .second, .unset, .unset, .unset] [(.long ((6 : Int64) <<< ((p2 &&& (7 : Int32)) &&& 0x3f).toInt64))])) _
    refine XS.lloadN X6.here hx rfl (hb hby at_81) rfl ?_
    show Steps p.tables e below (T6.setTop (mkF m 82 #[.val (.long q1), .second, .val (.int p2), .val (.int p3), .val (.int (p2 &&& (7 : Int32))), .val (.int (1 : Int32)), .val (.int (0 : Int32)), .val (.ref b4), .val (.long ((6 : Int64) <<< ((p2 &&& (7 : Int32)) &&& 0x3f).toInt64)), .second, .unset, .unset, .unset] [(.long q1), (.long ((6 : Int64) <<< ((p2 &&& (7 : Int32)) &&& 0x3f).toInt64))])) _
    refine X6.ldc2Long hx hown (mvT hZ (hw _ (List.mem_of_getElem? (i := 44) rfl))) (g := (mkF m 82 #[.val (.long q1), .second, .val (.int p2), .val (.int p3), .val (.int (p2 &&& (7 : Int32))), .val (.int (1 : Int32)), .val (.int (0 : Int32)), .val (.ref b4), .val (.long ((6 : Int64) <<< ((p2 &&& (7 : Int32)) &&& 0x3f).toInt64)), .second, .unset, .unset, .unset] [(.long q1), (.long ((6 : Int64) <<< ((p2 &&& (7 : Int32)) &&& 0x3f).toInt64))])) rfl (hb hby at_82) _ ?_
    show Steps p.tables e below (T6.setTop (mkF m 85 #[.val (.long q1), .second, .val (.int p2), .val (.int p3), .val (.int (p2 &&& (7 : Int32))), .val (.int (1 : Int32)), .val (.int (0 : Int32)), .val (.ref b4), .val (.long ((6 : Int64) <<< ((p2 &&& (7 : Int32)) &&& 0x3f).toInt64)), .second, .unset, .unset, .unset] [(.long (4 : Int64)), (.long q1), (.long ((6 : Int64) <<< ((p2 &&& (7 : Int32)) &&& 0x3f).toInt64))])) _
    refine XS.lrem X6.here hx rfl (hb hby at_85) rfl hnz85 ?_
    rw [lrem_mod]
    show Steps p.tables e below (T6.setTop (mkF m 86 #[.val (.long q1), .second, .val (.int p2), .val (.int p3), .val (.int (p2 &&& (7 : Int32))), .val (.int (1 : Int32)), .val (.int (0 : Int32)), .val (.ref b4), .val (.long ((6 : Int64) <<< ((p2 &&& (7 : Int32)) &&& 0x3f).toInt64)), .second, .unset, .unset, .unset] [(.long (q1 % (4 : Int64))), (.long ((6 : Int64) <<< ((p2 &&& (7 : Int32)) &&& 0x3f).toInt64))])) _
    refine XS.ladd X6.here hx rfl (hb hby at_86) rfl ?_
    show Steps p.tables e below (T6.setTop (mkF m 87 #[.val (.long q1), .second, .val (.int p2), .val (.int p3), .val (.int (p2 &&& (7 : Int32))), .val (.int (1 : Int32)), .val (.int (0 : Int32)), .val (.ref b4), .val (.long ((6 : Int64) <<< ((p2 &&& (7 : Int32)) &&& 0x3f).toInt64)), .second, .unset, .unset, .unset] [(.long (((6 : Int64) <<< ((p2 &&& (7 : Int32)) &&& 0x3f).toInt64) + (q1 % (4 : Int64))))])) _
    refine XS.lstore X6.here hx rfl (hb hby at_87) rfl (l' := #[.val (.long q1), .second, .val (.int p2), .val (.int p3), .val (.int (p2 &&& (7 : Int32))), .val (.int (1 : Int32)), .val (.int (0 : Int32)), .val (.ref b4), .val (.long ((6 : Int64) <<< ((p2 &&& (7 : Int32)) &&& 0x3f).toInt64)), .second, .val (.long (((6 : Int64) <<< ((p2 &&& (7 : Int32)) &&& 0x3f).toInt64) + (q1 % (4 : Int64)))), .second, .unset]) rfl ?_
    show Steps p.tables e below (T6.setTop (mkF m 89 #[.val (.long q1), .second, .val (.int p2), .val (.int p3), .val (.int (p2 &&& (7 : Int32))), .val (.int (1 : Int32)), .val (.int (0 : Int32)), .val (.ref b4), .val (.long ((6 : Int64) <<< ((p2 &&& (7 : Int32)) &&& 0x3f).toInt64)), .second, .val (.long (((6 : Int64) <<< ((p2 &&& (7 : Int32)) &&& 0x3f).toInt64) + (q1 % (4 : Int64)))), .second, .unset] [])) _
    refine XS.lload X6.here hx rfl (hb hby at_89) rfl ?_
    show Steps p.tables e below (T6.setTop (mkF m 91 #[.val (.long q1), .second, .val (.int p2), .val (.int p3), .val (.int (p2 &&& (7 : Int32))), .val (.int (1 : Int32)), .val (.int (0 : Int32)), .val (.ref b4), .val (.long ((6 : Int64) <<< ((p2 &&& (7 : Int32)) &&& 0x3f).toInt64)), .second, .val (.long (((6 : Int64) <<< ((p2 &&& (7 : Int32)) &&& 0x3f).toInt64) + (q1 % (4 : Int64)))), .second, .unset] [(.long (((6 : Int64) <<< ((p2 &&& (7 : Int32)) &&& 0x3f).toInt64) + (q1 % (4 : Int64))))])) _
    refine XS.lload X6.here hx rfl (hb hby at_91) rfl ?_
    show Steps p.tables e below (T6.setTop (mkF m 93 #[.val (.long q1), .second, .val (.int p2), .val (.int p3), .val (.int (p2 &&& (7 : Int32))), .val (.int (1 : Int32)), .val (.int (0 : Int32)), .val (.ref b4), .val (.long ((6 : Int64) <<< ((p2 &&& (7 : Int32)) &&& 0x3f).toInt64)), .second, .val (.long (((6 : Int64) <<< ((p2 &&& (7 : Int32)) &&& 0x3f).toInt64) + (q1 % (4 : Int64)))), .second, .unset] [(.long ((6 : Int64) <<< ((p2 &&& (7 : Int32)) &&& 0x3f).toInt64)), (.long (((6 : Int64) <<< ((p2 &&& (7 : Int32)) &&& 0x3f).toInt64) + (q1 % (4 : Int64))))])) _
    refine XS.lcmp X6.here hx rfl (hb hby at_93) rfl ?_
    show Steps p.tables e below (T6.setTop (mkF m 94 #[.val (.long q1), .second, .val (.int p2), .val (.int p3), .val (.int (p2 &&& (7 : Int32))), .val (.int (1 : Int32)), .val (.int (0 : Int32)), .val (.ref b4), .val (.long ((6 : Int64) <<< ((p2 &&& (7 : Int32)) &&& 0x3f).toInt64)), .second, .val (.long (((6 : Int64) <<< ((p2 &&& (7 : Int32)) &&& 0x3f).toInt64) + (q1 % (4 : Int64)))), .second, .unset] [(.int (lcmpW (((6 : Int64) <<< ((p2 &&& (7 : Int32)) &&& 0x3f).toInt64) + (q1 % (4 : Int64))) ((6 : Int64) <<< ((p2 &&& (7 : Int32)) &&& 0x3f).toInt64)))])) _
    refine XS.ifNo X6.here hx rfl (hb hby at_94) rfl ((if0 _ _).trans (flt hc94).2.2.1) ?_
    show Steps p.tables e below (T6.setTop (mkF m 97 #[.val (.long q1), .second, .val (.int p2), .val (.int p3), .val (.int (p2 &&& (7 : Int32))), .val (.int (1 : Int32)), .val (.int (0 : Int32)), .val (.ref b4), .val (.long ((6 : Int64) <<< ((p2 &&& (7 : Int32)) &&& 0x3f).toInt64)), .second, .val (.long (((6 : Int64) <<< ((p2 &&& (7 : Int32)) &&& 0x3f).toInt64) + (q1 % (4 : Int64)))), .second, .unset] [])) _
    refine XS.iconst X6.here hx rfl (hb hby at_97) ?_
    show Steps p.tables e below (T6.setTop (mkF m 98 #[.val (.long q1), .second, .val (.int p2), .val (.int p3), .val (.int (p2 &&& (7 : Int32))), .val (.int (1 : Int32)), .val (.int (0 : Int32)), .val (.ref b4), .val (.long ((6 : Int64) <<< ((p2 &&& (7 : Int32)) &&& 0x3f).toInt64)), .second, .val (.long (((6 : Int64) <<< ((p2 &&& (7 : Int32)) &&& 0x3f).toInt64) + (q1 % (4 : Int64)))), .second, .unset] [(.int (1 : Int32))])) _
    refine XS.goto X6.here hx rfl (pc0 := 98) (pc' := 102) rfl (hb hby at_98) (by decide) (by decide) ?_
    show Steps p.tables e below (T6.setTop (mkF m 102 #[.val (.long q1), .second, .val (.int p2), .val (.int p3), .val (.int (p2 &&& (7 : Int32))), .val (.int (1 : Int32)), .val (.int (0 : Int32)), .val (.ref b4), .val (.long ((6 : Int64) <<< ((p2 &&& (7 : Int32)) &&& 0x3f).toInt64)), .second, .val (.long (((6 : Int64) <<< ((p2 &&& (7 : Int32)) &&& 0x3f).toInt64) + (q1 % (4 : Int64)))), .second, .unset] [(.int (1 : Int32))])) _
    refine XS.istore X6.here hx rfl (hb hby at_102) rfl (l' := #[.val (.long q1), .second, .val (.int p2), .val (.int p3), .val (.int (p2 &&& (7 : Int32))), .val (.int (1 : Int32)), .val (.int (0 : Int32)), .val (.ref b4), .val (.long ((6 : Int64) <<< ((p2 &&& (7 : Int32)) &&& 0x3f).toInt64)), .second, .val (.long (((6 : Int64) <<< ((p2 &&& (7 : Int32)) &&& 0x3f).toInt64) + (q1 % (4 : Int64)))), .second, .val (.int (1 : Int32))]) rfl ?_
    show Steps p.tables e below (T6.setTop (mkF m 104 #[.val (.long q1), .second, .val (.int p2), .val (.int p3), .val (.int (p2 &&& (7 : Int32))), .val (.int (1 : Int32)), .val (.int (0 : Int32)), .val (.ref b4), .val (.long ((6 : Int64) <<< ((p2 &&& (7 : Int32)) &&& 0x3f).toInt64)), .second, .val (.long (((6 : Int64) <<< ((p2 &&& (7 : Int32)) &&& 0x3f).toInt64) + (q1 % (4 : Int64)))), .second, .val (.int (1 : Int32))] [])) _
    refine XS.aload X6.here hx rfl (hb hby at_104) rfl rfl ?_
    show Steps p.tables e below (T6.setTop (mkF m 106 #[.val (.long q1), .second, .val (.int p2), .val (.int p3), .val (.int (p2 &&& (7 : Int32))), .val (.int (1 : Int32)), .val (.int (0 : Int32)), .val (.ref b4), .val (.long ((6 : Int64) <<< ((p2 &&& (7 : Int32)) &&& 0x3f).toInt64)), .second, .val (.long (((6 : Int64) <<< ((p2 &&& (7 : Int32)) &&& 0x3f).toInt64) + (q1 % (4 : Int64)))), .second, .val (.int (1 : Int32))] [(.ref b4)])) _
    refine XS.lload X6.here hx rfl (hb hby at_106) rfl ?_
    show Steps p.tables e below (T6.setTop (mkF m 108 #[.val (.long q1), .second, .val (.int p2), .val (.int p3), .val (.int (p2 &&& (7 : Int32))), .val (.int (1 : Int32)), .val (.int (0 : Int32)), .val (.ref b4), .val (.long ((6 : Int64) <<< ((p2 &&& (7 : Int32)) &&& 0x3f).toInt64)), .second, .val (.long (((6 : Int64) <<< ((p2 &&& (7 : Int32)) &&& 0x3f).toInt64) + (q1 % (4 : Int64)))), .second, .val (.int (1 : Int32))] [(.long (((6 : Int64) <<< ((p2 &&& (7 : Int32)) &&& 0x3f).toInt64) + (q1 % (4 : Int64)))), (.ref b4)])) _
    refine st7.trans ?_
    show Steps p.tables e below (T7.setTop (mkF m 111 #[.val (.long q1), .second, .val (.int p2), .val (.int p3), .val (.int (p2 &&& (7 : Int32))), .val (.int (1 : Int32)), .val (.int (0 : Int32)), .val (.ref b4), .val (.long ((6 : Int64) <<< ((p2 &&& (7 : Int32)) &&& 0x3f).toInt64)), .second, .val (.long (((6 : Int64) <<< ((p2 &&& (7 : Int32)) &&& 0x3f).toInt64) + (q1 % (4 : Int64)))), .second, .val (.int (1 : Int32))] [(.int (1 : Int32))])) _
    refine XS.iload X7.here hx rfl (hb hby at_111) rfl ?_
    show Steps p.tables e below (T7.setTop (mkF m 113 #[.val (.long q1), .second, .val (.int p2), .val (.int p3), .val (.int (p2 &&& (7 : Int32))), .val (.int (1 : Int32)), .val (.int (0 : Int32)), .val (.ref b4), .val (.long ((6 : Int64) <<< ((p2 &&& (7 : Int32)) &&& 0x3f).toInt64)), .second, .val (.long (((6 : Int64) <<< ((p2 &&& (7 : Int32)) &&& 0x3f).toInt64) + (q1 % (4 : Int64)))), .second, .val (.int (1 : Int32))] [(.int (1 : Int32)), (.int (1 : Int32))])) _
    refine XS.icmpNo X7.here hx rfl (hb hby at_113) rfl (teq (rfl : (1 : Int32) = (1 : Int32))).2 ?_
    show Steps p.tables e below (T7.setTop (mkF m 116 #[.val (.long q1), .second, .val (.int p2), .val (.int p3), .val (.int (p2 &&& (7 : Int32))), .val (.int (1 : Int32)), .val (.int (0 : Int32)), .val (.ref b4), .val (.long ((6 : Int64) <<< ((p2 &&& (7 : Int32)) &&& 0x3f).toInt64)), .second, .val (.long (((6 : Int64) <<< ((p2 &&& (7 : Int32)) &&& 0x3f).toInt64) + (q1 % (4 : Int64)))), .second, .val (.int (1 : Int32))] [])) _
    refine XS.iconst X7.here hx rfl (hb hby at_116) ?_
    show Steps p.tables e below (T7.setTop (mkF m 117 #[.val (.long q1), .second, .val (.int p2), .val (.int p3), .val (.int (p2 &&& (7 : Int32))), .val (.int (1 : Int32)), .val (.int (0 : Int32)), .val (.ref b4), .val (.long ((6 : Int64) <<< ((p2 &&& (7 : Int32)) &&& 0x3f).toInt64)), .second, .val (.long (((6 : Int64) <<< ((p2 &&& (7 : Int32)) &&& 0x3f).toInt64) + (q1 % (4 : Int64)))), .second, .val (.int (1 : Int32))] [(.int (1 : Int32))])) _
    refine XS.goto X7.here hx rfl (pc0 := 117) (pc' := 121) rfl (hb hby at_117) (by decide) (by decide) ?_
    show Steps p.tables e below (T7.setTop (mkF m 121 #[.val (.long q1), .second, .val (.int p2), .val (.int p3), .val (.int (p2 &&& (7 : Int32))), .val (.int (1 : Int32)), .val (.int (0 : Int32)), .val (.ref b4), .val (.long ((6 : Int64) <<< ((p2 &&& (7 : Int32)) &&& 0x3f).toInt64)), .second, .val (.long (((6 : Int64) <<< ((p2 &&& (7 : Int32)) &&& 0x3f).toInt64) + (q1 % (4 : Int64)))), .second, .val (.int (1 : Int32))] [(.int (1 : Int32))])) _
    exact retN X7 hx (t := .boolean) Bd.returns (by simp) (hb hby at_121) hr
  · show Qz  h0 n0 _ T7.heap _
    rw [hh7]
    exact ⟨rfl, N7⟩
set_option maxRecDepth 65536 in
set_option maxHeartbeats 40000000 in
theorem rm0_ftfttf (l : Launch) (Z : State) (a0 : Array Value) (hw : ∀ d ∈ tables_1, d.before a0 Z = true) (ws : List Jvm.Cond) (q1 : Int64) (p2 : Int32) (p3 : Int32) (zz : Int32) (h0 : Heap) (n0 : Nat) (Z0 : n0 ≤ h0.size) (hq : (((6 : Int64) <<< ((p2 &&& (7 : Int32)) &&& 0x3f).toInt64) = (6 : Int64) ∧ zz = (8 : Int32)) ∨ (((6 : Int64) <<< ((p2 &&& (7 : Int32)) &&& 0x3f).toInt64) = (12 : Int64) ∧ zz = (16 : Int32)) ∨ (((6 : Int64) <<< ((p2 &&& (7 : Int32)) &&& 0x3f).toInt64) = (24 : Int64) ∧ zz = (32 : Int32)) ∨ (((6 : Int64) <<< ((p2 &&& (7 : Int32)) &&& 0x3f).toInt64) = (48 : Int64) ∧ zz = (64 : Int32)) ∨ (((6 : Int64) <<< ((p2 &&& (7 : Int32)) &&& 0x3f).toInt64) = (96 : Int64) ∧ zz = (128 : Int32)) ∨ (((6 : Int64) <<< ((p2 &&& (7 : Int32)) &&& 0x3f).toInt64) = (192 : Int64) ∧ zz = (256 : Int32)) ∨ (((6 : Int64) <<< ((p2 &&& (7 : Int32)) &&& 0x3f).toInt64) = (384 : Int64) ∧ zz = (512 : Int32)) ∨ (((6 : Int64) <<< ((p2 &&& (7 : Int32)) &&& 0x3f).toInt64) = (768 : Int64) ∧ zz = (1024 : Int32))) (hcap : (((zz / (4 : Int32)) * (3 : Int32)).toInt64) = ((6 : Int64) <<< ((p2 &&& (7 : Int32)) &&& 0x3f).toInt64)) (hc9 : ¬ ((p3 &&& (2 : Int32)) = (0 : Int32))) (hc22 : (p3 &&& (1 : Int32)) = (0 : Int32)) (hc48 : ¬ ((1 : Int32) = (0 : Int32))) (hnz85 : ¬ ((4 : Int64) = (0 : Int64))) (hc94 : (0 : Int32) < (lcmpW (((6 : Int64) <<< ((p2 &&& (7 : Int32)) &&& 0x3f).toInt64) + (q1 % (4 : Int64))) ((6 : Int64) <<< ((p2 &&& (7 : Int32)) &&& 0x3f).toInt64))) :
    MetFree l x (head1 (Jvm.Cond.code x code maxLocals ret :: ws) room_1) (fun a U => a = #[(.long q1), (.int p2), (.int p3)] ∧ Z.Warmed39 U.vm ∧ U.heap = h0) (fun _ _ _ _ _ => True) (fun _ U o U' => ∃ v L, o = .returned v ∧ Qz  h0 n0 v U'.heap L ∧ FrameEnd U o U' L room_1.cells room_1.slots) := by
  refine MetFree.of_bodySF (plainFor_of_name pn_0) hisR ?_
  intro p e s m args below meth c s₁ Bd hml0 hP hK
  obtain ⟨rfl, hZ, hh⟩ := hP
  have hx := Bd.exec
  have hby := Bd.bytes
  have hml : c.maxLocals = 13 := hml0
  have hown : s.vm.findClass "com/example/wheredb/wheredb/storage/MemorySetHasRoomForPinLaw" = some m.cls := findClass_of_methodNamed Bd.named
  have hnm := (name_of_methodNamed Bd.named Bd.method).1
  have X0 : Stand p l e room_1 s m #[(.long q1), (.int p2), (.int p3)] below meth c s₁ [] 0 0 := Stand.of_body Bd
  have e0 : s₁.heap = h0 := by rw [← hh, Bd.state]; rfl
  have N0 := Fr.nil n0
  have pre0 : ∀ t, Steps p.tables e below (s₁.setTop (mkF m 0 #[.val (.long q1), .second, .val (.int p2), .val (.int p3), .unset, .unset, .unset, .unset, .unset, .unset, .unset, .unset, .unset] [])) t → Steps p.tables e below (s₁.setTop (entryFrame m #[(.long q1), (.int p2), (.int p3)] maxLocals)) t := fun t k => castTop (ef_0 m q1 p2 p3) k
  obtain ⟨T4, h4, X4, e4, E4, A4, D4, -, st4⟩ := newO X0 hx hZ hown (hw _ (List.mem_of_getElem? (i := 0) rfl)) (hw _ (List.mem_of_getElem? (i := 1) rfl)) (hw _ (List.mem_of_getElem? (i := 2) rfl)) e0 (g := (mkF m 32 #[.val (.long q1), .second, .val (.int p2), .val (.int p3), .val (.int (p2 &&& (7 : Int32))), .val (.int (1 : Int32)), .val (.int (0 : Int32)), .unset, .unset, .unset, .unset, .unset, .unset] [])) rfl (hb hby at_32) (by decide) (by decide)
  obtain ⟨b4, g4⟩ : ∃ z, z = h0.size := ⟨_, rfl⟩
  rw [← g4] at A4 D4 st4
  have F_chunks_b4 : Fld Z h4 b4 "com/example/wheredb/wheredb/storage/MemorySet" "chunks" "[Lcom/example/wheredb/wheredb/storage/MemorySet$Chunk;" .null := D4 (Or.inl (hw _ (List.mem_of_getElem? (i := 12) rfl))) (ty := (.array (.object "com/example/wheredb/wheredb/storage/MemorySet$Chunk"))) (by decide)
  have F_lastCells_b4 : Fld Z h4 b4 "com/example/wheredb/wheredb/storage/MemorySet" "lastCells" "[J" .null := D4 (Or.inl (hw _ (List.mem_of_getElem? (i := 15) rfl))) (ty := (.array .long)) (by decide)
  have F_slotHashes_b4 : Fld Z h4 b4 "com/example/wheredb/wheredb/storage/MemorySet" "slotHashes" "[I" .null := D4 (Or.inl (hw _ (List.mem_of_getElem? (i := 18) rfl))) (ty := (.array .int)) (by decide)
  have F_slotCells_b4 : Fld Z h4 b4 "com/example/wheredb/wheredb/storage/MemorySet" "slotCells" "[J" .null := D4 (Or.inl (hw _ (List.mem_of_getElem? (i := 20) rfl))) (ty := (.array .long)) (by decide)
  have F_slotShift_b4 : Fld Z h4 b4 "com/example/wheredb/wheredb/storage/MemorySet" "slotShift" "I" (.int (0 : Int32)) := D4 (Or.inl (hw _ (List.mem_of_getElem? (i := 27) rfl))) (ty := .int) (by decide)
  have E_b4 := A4
  have g_b4 : n0 ≤ b4 := Nat.le_trans Z0 (Nat.le_of_eq g4.symm)
  have sz_b4 : h0.size ≤ b4 := (Nat.le_trans (Keep.refl h0 []).1 (Nat.le_of_eq g4.symm))
  have K4 : Keep h0 h4 [] := (Keep.refl h0 []).ext E4
  obtain ⟨_, _, ⟨T5, L5, k5, n5⟩, -, X5, ⟨Lc5, hQ5, l5, y5, z5⟩, st5⟩ := X4.specialBack hx (y := (⟨"com/example/wheredb/wheredb/storage/MemorySet", "<init>", "()V"⟩ : MethodName)) rfl hown (mvT hZ (hw _ (List.mem_of_getElem? (i := 3) rfl))) (mvT hZ (hw _ (List.mem_of_getElem? (i := 4) rfl))) (mvT hZ (hw _ (List.mem_of_getElem? (i := 5) rfl))) (by decide) (backOf (W := 1) (rm1 l Z a0 hw [] b4 .null .null .null .null (.int (0 : Int32)) h4 n0 (Nat.le_trans Z0 E4.1) E_b4 F_chunks_b4 g_b4 F_lastCells_b4 F_slotHashes_b4 F_slotCells_b4 F_slotShift_b4) hZ (hw _ (List.mem_of_getElem? (i := 5) rfl)) (hw _ (List.mem_of_getElem? (i := 2) rfl)) (by decide) (by decide)) (g := (mkF m 36 #[.val (.long q1), .second, .val (.int p2), .val (.int p3), .val (.int (p2 &&& (7 : Int32))), .val (.int (1 : Int32)), .val (.int (0 : Int32)), .unset, .unset, .unset, .unset, .unset, .unset] [(.ref b4), (.ref b4)])) rfl (by rw [hml]; rfl) (Steps.refl _) (a := b4) (argsL := []) (rest := [(.ref b4)]) (lenOf pd_0_0 rfl) rfl (by show 2 * 0 + _ ≤ _; exact Nat.le_of_eq rfl) (hb hby at_36) (fun _ _ => ⟨rfl, e4, (by decide : 1 + 4 ≤ _), (by decide : 7 + 24 ≤ _)⟩)
  dsimp only [Pt.U, Pt.locs, Pt.cells, Pt.slots] at X5 l5 y5 z5 st5 hQ5
  subst l5 y5 z5
  obtain ⟨rfl, N5q, Kc5, Ec5, bh5, bc5, kb5, rs5, Fh5, Fs5, Ft5, Vb5⟩ := hQ5
  have N5 := Fr.app N0 N5q
  have K5 : Keep h0 T5.heap [] := K4.trans Kc5 (allS (Or.inr sz_b4) all0)
  obtain ⟨cq6, kq6, q6a, q6b, q6c⟩ := isOf hZ rfl Ec5
  obtain ⟨_, _, ⟨T6, L6, k6, n6⟩, -, X6, ⟨Lc6, hQ6, l6, y6, z6⟩, st6⟩ := X5.virtualBack hx (y := (⟨"com/example/wheredb/wheredb/storage/MemorySet", "reserve", "(J)V"⟩ : MethodName)) (z := (⟨"com/example/wheredb/wheredb/storage/MemorySet", "reserve", "(J)V"⟩ : MethodName)) hown (mvT hZ (hw _ (List.mem_of_getElem? (i := 34) rfl))) (mvT hZ (hw _ (List.mem_of_getElem? (i := 35) rfl))) (notFace_of_selects (args := #[]) (mvT hZ (hw _ (List.mem_of_getElem? (i := 37) rfl)))) (mvT hZ (hw _ (List.mem_of_getElem? (i := 37) rfl))) (mvT hZ (hw _ (List.mem_of_getElem? (i := 36) rfl))) (by decide) (backOf (W := 0) (rm5 l Z a0 hw [] b4 ((6 : Int64) <<< ((p2 &&& (7 : Int32)) &&& 0x3f).toInt64) bh5 kb5 bc5 rs5 zz T5.heap n0 (Nat.le_trans (Nat.le_trans Z0 E4.1) Kc5.1) Fh5 Ec5 Fs5 Ft5 g_b4 Vb5 hq) hZ (hw _ (List.mem_of_getElem? (i := 38) rfl)) (hw _ (List.mem_of_getElem? (i := 2) rfl)) (by decide) (by decide)) q6a q6c (g := (mkF m 59 #[.val (.long q1), .second, .val (.int p2), .val (.int p3), .val (.int (p2 &&& (7 : Int32))), .val (.int (1 : Int32)), .val (.int (0 : Int32)), .val (.ref b4), .val (.long (6 : Int64)), .second, .unset, .unset, .unset] [(.long ((6 : Int64) <<< ((p2 &&& (7 : Int32)) &&& 0x3f).toInt64)), (.ref b4)])) rfl (by rw [hml]; rfl) (Steps.refl _) (argsL := [(.long ((6 : Int64) <<< ((p2 &&& (7 : Int32)) &&& 0x3f).toInt64))]) (rest := []) (lenOf pd_0_3 rfl) rfl (by show 2 * 0 + _ ≤ _; exact Nat.le_of_eq rfl) (hb hby at_59) (fun _ _ => ⟨rfl, rfl, (by decide : 5 + 2 ≤ _), (by decide : 31 + 2048 ≤ _)⟩)
  dsimp only [Pt.U, Pt.locs, Pt.cells, Pt.slots] at X6 l6 y6 z6 st6 hQ6
  subst l6 y6 z6
  obtain ⟨rfl, N6q, Kc6, Ec6, bh6, kb6, Fh6, Vb6⟩ := hQ6
  have N6 := Fr.app N5 N6q
  have K6 : Keep h0 T6.heap [] := K5.trans Kc6 (allS (Or.inr sz_b4) all0)
  obtain ⟨cl_c7, Ar_c7, -, S_c7, N_c7, -, -⟩ := Vb6
  obtain ⟨cq7, kq7, q7a, q7b, q7c⟩ := isOf hZ rfl Ec6
  obtain ⟨_, _, ⟨T7, L7, k7, n7⟩, -, X7, ⟨Lc7, hQ7, l7, y7, z7⟩, st7⟩ := X6.virtualBack hx (y := (⟨"com/example/wheredb/wheredb/storage/MemorySet", "hasRoomFor", "(J)Z"⟩ : MethodName)) (z := (⟨"com/example/wheredb/wheredb/storage/MemorySet", "hasRoomFor", "(J)Z"⟩ : MethodName)) hown (mvT hZ (hw _ (List.mem_of_getElem? (i := 29) rfl))) (mvT hZ (hw _ (List.mem_of_getElem? (i := 30) rfl))) (notFace_of_selects (args := #[]) (mvT hZ (hw _ (List.mem_of_getElem? (i := 32) rfl)))) (mvT hZ (hw _ (List.mem_of_getElem? (i := 32) rfl))) (mvT hZ (hw _ (List.mem_of_getElem? (i := 31) rfl))) (by decide) (backOf (W := 0) (rm4_t l Z a0 hw [] b4 (((6 : Int64) <<< ((p2 &&& (7 : Int32)) &&& 0x3f).toInt64) + (q1 % (4 : Int64))) bh6 cl_c7 zz T6.heap n0 (Nat.le_trans (Nat.le_trans (Nat.le_trans Z0 E4.1) Kc5.1) Kc6.1) Fh6 Ar_c7 S_c7 N_c7 (by decide) (by rw [hcap]; exact hc94)) hZ (hw _ (List.mem_of_getElem? (i := 33) rfl)) (hw _ (List.mem_of_getElem? (i := 2) rfl)) (by decide) (by decide)) q7a q7c (g := (mkF m 108 #[.val (.long q1), .second, .val (.int p2), .val (.int p3), .val (.int (p2 &&& (7 : Int32))), .val (.int (1 : Int32)), .val (.int (0 : Int32)), .val (.ref b4), .val (.long ((6 : Int64) <<< ((p2 &&& (7 : Int32)) &&& 0x3f).toInt64)), .second, .val (.long (((6 : Int64) <<< ((p2 &&& (7 : Int32)) &&& 0x3f).toInt64) + (q1 % (4 : Int64)))), .second, .val (.int (0 : Int32))] [(.long (((6 : Int64) <<< ((p2 &&& (7 : Int32)) &&& 0x3f).toInt64) + (q1 % (4 : Int64)))), (.ref b4)])) rfl (by rw [hml]; rfl) (Steps.refl _) (argsL := [(.long (((6 : Int64) <<< ((p2 &&& (7 : Int32)) &&& 0x3f).toInt64) + (q1 % (4 : Int64))))]) (rest := []) (lenOf pd_0_2 rfl) rfl (by show 2 * 0 + _ ≤ _; exact Nat.le_of_eq rfl) (hb hby at_108) (fun _ _ => ⟨rfl, rfl, (by decide : 7 + 0 ≤ _), (by decide : 2079 + 0 ≤ _)⟩)
  dsimp only [Pt.U, Pt.locs, Pt.cells, Pt.slots] at X7 l7 y7 z7 st7 hQ7
  subst l7 y7 z7
  obtain ⟨rfl, N7q, hh7⟩ := hQ7
  have N7 := Fr.app N6 N7q
  obtain ⟨fs, hr, hrun, hended, hW, hsame⟩ := X7.leave (v := some (.int (1 : Int32))) (fun h => by rw [Bd.returns] at h; cases h)
  refine ⟨_, _, pre0 _ ?_, hrun, hended, _, _, rfl, ?_, ⟨_, rfl⟩, hW, hsame.mono (by decide) (by decide)⟩
  · show Steps p.tables e below (s₁.setTop (mkF m 0 #[.val (.long q1), .second, .val (.int p2), .val (.int p3), .unset, .unset, .unset, .unset, .unset, .unset, .unset, .unset, .unset] [])) _
    refine XS.iloadN X0.here hx rfl (hb hby at_0) rfl ?_
    show Steps p.tables e below (s₁.setTop (mkF m 1 #[.val (.long q1), .second, .val (.int p2), .val (.int p3), .unset, .unset, .unset, .unset, .unset, .unset, .unset, .unset, .unset] [(.int p2)])) _
    refine XS.bipush X0.here hx rfl (hb hby at_1) ?_
    show Steps p.tables e below (s₁.setTop (mkF m 3 #[.val (.long q1), .second, .val (.int p2), .val (.int p3), .unset, .unset, .unset, .unset, .unset, .unset, .unset, .unset, .unset] [(.int (7 : Int32)), (.int p2)])) _
    refine XS.iand X0.here hx rfl (hb hby at_3) rfl ?_
    show Steps p.tables e below (s₁.setTop (mkF m 4 #[.val (.long q1), .second, .val (.int p2), .val (.int p3), .unset, .unset, .unset, .unset, .unset, .unset, .unset, .unset, .unset] [(.int (p2 &&& (7 : Int32)))])) _
    refine XS.istore X0.here hx rfl (hb hby at_4) rfl (l' := #[.val (.long q1), .second, .val (.int p2), .val (.int p3), .val (.int (p2 &&& (7 : Int32))), .unset, .unset, .unset, .unset, .unset, .unset, .unset, .unset]) rfl ?_
    show Steps p.tables e below (s₁.setTop (mkF m 6 #[.val (.long q1), .second, .val (.int p2), .val (.int p3), .val (.int (p2 &&& (7 : Int32))), .unset, .unset, .unset, .unset, .unset, .unset, .unset, .unset] [])) _
    refine XS.iloadN X0.here hx rfl (hb hby at_6) rfl ?_
    show Steps p.tables e below (s₁.setTop (mkF m 7 #[.val (.long q1), .second, .val (.int p2), .val (.int p3), .val (.int (p2 &&& (7 : Int32))), .unset, .unset, .unset, .unset, .unset, .unset, .unset, .unset] [(.int p3)])) _
    refine XS.iconst X0.here hx rfl (hb hby at_7) ?_
    show Steps p.tables e below (s₁.setTop (mkF m 8 #[.val (.long q1), .second, .val (.int p2), .val (.int p3), .val (.int (p2 &&& (7 : Int32))), .unset, .unset, .unset, .unset, .unset, .unset, .unset, .unset] [(.int (2 : Int32)), (.int p3)])) _
    refine XS.iand X0.here hx rfl (hb hby at_8) rfl ?_
    show Steps p.tables e below (s₁.setTop (mkF m 9 #[.val (.long q1), .second, .val (.int p2), .val (.int p3), .val (.int (p2 &&& (7 : Int32))), .unset, .unset, .unset, .unset, .unset, .unset, .unset, .unset] [(.int (p3 &&& (2 : Int32)))])) _
    refine XS.ifNo X0.here hx rfl (hb hby at_9) rfl ((if0 _ _).trans (feq hc9).1) ?_
    show Steps p.tables e below (s₁.setTop (mkF m 12 #[.val (.long q1), .second, .val (.int p2), .val (.int p3), .val (.int (p2 &&& (7 : Int32))), .unset, .unset, .unset, .unset, .unset, .unset, .unset, .unset] [])) _
    refine XS.iconst X0.here hx rfl (hb hby at_12) ?_
    show Steps p.tables e below (s₁.setTop (mkF m 13 #[.val (.long q1), .second, .val (.int p2), .val (.int p3), .val (.int (p2 &&& (7 : Int32))), .unset, .unset, .unset, .unset, .unset, .unset, .unset, .unset] [(.int (1 : Int32))])) _
    refine XS.goto X0.here hx rfl (pc0 := 13) (pc' := 17) rfl (hb hby at_13) (by decide) (by decide) ?_
    show Steps p.tables e below (s₁.setTop (mkF m 17 #[.val (.long q1), .second, .val (.int p2), .val (.int p3), .val (.int (p2 &&& (7 : Int32))), .unset, .unset, .unset, .unset, .unset, .unset, .unset, .unset] [(.int (1 : Int32))])) _
    refine XS.istore X0.here hx rfl (hb hby at_17) rfl (l' := #[.val (.long q1), .second, .val (.int p2), .val (.int p3), .val (.int (p2 &&& (7 : Int32))), .val (.int (1 : Int32)), .unset, .unset, .unset, .unset, .unset, .unset, .unset]) rfl ?_
    show Steps p.tables e below (s₁.setTop (mkF m 19 #[.val (.long q1), .second, .val (.int p2), .val (.int p3), .val (.int (p2 &&& (7 : Int32))), .val (.int (1 : Int32)), .unset, .unset, .unset, .unset, .unset, .unset, .unset] [])) _
    refine XS.iloadN X0.here hx rfl (hb hby at_19) rfl ?_
    show Steps p.tables e below (s₁.setTop (mkF m 20 #[.val (.long q1), .second, .val (.int p2), .val (.int p3), .val (.int (p2 &&& (7 : Int32))), .val (.int (1 : Int32)), .unset, .unset, .unset, .unset, .unset, .unset, .unset] [(.int p3)])) _
    refine XS.iconst X0.here hx rfl (hb hby at_20) ?_
    show Steps p.tables e below (s₁.setTop (mkF m 21 #[.val (.long q1), .second, .val (.int p2), .val (.int p3), .val (.int (p2 &&& (7 : Int32))), .val (.int (1 : Int32)), .unset, .unset, .unset, .unset, .unset, .unset, .unset] [(.int (1 : Int32)), (.int p3)])) _
    refine XS.iand X0.here hx rfl (hb hby at_21) rfl ?_
    show Steps p.tables e below (s₁.setTop (mkF m 22 #[.val (.long q1), .second, .val (.int p2), .val (.int p3), .val (.int (p2 &&& (7 : Int32))), .val (.int (1 : Int32)), .unset, .unset, .unset, .unset, .unset, .unset, .unset] [(.int (p3 &&& (1 : Int32)))])) _
    refine XS.ifYes X0.here hx rfl (pc0 := 22) (pc' := 29) rfl (hb hby at_22) rfl ((if0 _ _).trans (teq hc22).1) (by decide) (by decide) ?_
    show Steps p.tables e below (s₁.setTop (mkF m 29 #[.val (.long q1), .second, .val (.int p2), .val (.int p3), .val (.int (p2 &&& (7 : Int32))), .val (.int (1 : Int32)), .unset, .unset, .unset, .unset, .unset, .unset, .unset] [])) _
    refine XS.iconst X0.here hx rfl (hb hby at_29) ?_
    show Steps p.tables e below (s₁.setTop (mkF m 30 #[.val (.long q1), .second, .val (.int p2), .val (.int p3), .val (.int (p2 &&& (7 : Int32))), .val (.int (1 : Int32)), .unset, .unset, .unset, .unset, .unset, .unset, .unset] [(.int (0 : Int32))])) _
    refine XS.istore X0.here hx rfl (hb hby at_30) rfl (l' := #[.val (.long q1), .second, .val (.int p2), .val (.int p3), .val (.int (p2 &&& (7 : Int32))), .val (.int (1 : Int32)), .val (.int (0 : Int32)), .unset, .unset, .unset, .unset, .unset, .unset]) rfl ?_
    show Steps p.tables e below (s₁.setTop (mkF m 32 #[.val (.long q1), .second, .val (.int p2), .val (.int p3), .val (.int (p2 &&& (7 : Int32))), .val (.int (1 : Int32)), .val (.int (0 : Int32)), .unset, .unset, .unset, .unset, .unset, .unset] [])) _
    refine st4 _ ?_
    show Steps p.tables e below (T4.setTop (mkF m 35 #[.val (.long q1), .second, .val (.int p2), .val (.int p3), .val (.int (p2 &&& (7 : Int32))), .val (.int (1 : Int32)), .val (.int (0 : Int32)), .unset, .unset, .unset, .unset, .unset, .unset] [(.ref b4)])) _
    refine XS.dup X4.here hx rfl (hb hby at_35) rfl rfl ?_
    show Steps p.tables e below (T4.setTop (mkF m 36 #[.val (.long q1), .second, .val (.int p2), .val (.int p3), .val (.int (p2 &&& (7 : Int32))), .val (.int (1 : Int32)), .val (.int (0 : Int32)), .unset, .unset, .unset, .unset, .unset, .unset] [(.ref b4), (.ref b4)])) _
    refine st5.trans ?_
    show Steps p.tables e below (T5.setTop (mkF m 39 #[.val (.long q1), .second, .val (.int p2), .val (.int p3), .val (.int (p2 &&& (7 : Int32))), .val (.int (1 : Int32)), .val (.int (0 : Int32)), .unset, .unset, .unset, .unset, .unset, .unset] [(.ref b4)])) _
    refine XS.astore X5.here hx rfl (hb hby at_39) rfl rfl (l' := #[.val (.long q1), .second, .val (.int p2), .val (.int p3), .val (.int (p2 &&& (7 : Int32))), .val (.int (1 : Int32)), .val (.int (0 : Int32)), .val (.ref b4), .unset, .unset, .unset, .unset, .unset]) rfl ?_
    show Steps p.tables e below (T5.setTop (mkF m 41 #[.val (.long q1), .second, .val (.int p2), .val (.int p3), .val (.int (p2 &&& (7 : Int32))), .val (.int (1 : Int32)), .val (.int (0 : Int32)), .val (.ref b4), .unset, .unset, .unset, .unset, .unset] [])) _
    refine X5.ldc2Long hx hown (mvT hZ (hw _ (List.mem_of_getElem? (i := 28) rfl))) (g := (mkF m 41 #[.val (.long q1), .second, .val (.int p2), .val (.int p3), .val (.int (p2 &&& (7 : Int32))), .val (.int (1 : Int32)), .val (.int (0 : Int32)), .val (.ref b4), .unset, .unset, .unset, .unset, .unset] [])) rfl (hb hby at_41) _ ?_
    show Steps p.tables e below (T5.setTop (mkF m 44 #[.val (.long q1), .second, .val (.int p2), .val (.int p3), .val (.int (p2 &&& (7 : Int32))), .val (.int (1 : Int32)), .val (.int (0 : Int32)), .val (.ref b4), .unset, .unset, .unset, .unset, .unset] [(.long (6 : Int64))])) _
    refine XS.lstore X5.here hx rfl (hb hby at_44) rfl (l' := #[.val (.long q1), .second, .val (.int p2), .val (.int p3), .val (.int (p2 &&& (7 : Int32))), .val (.int (1 : Int32)), .val (.int (0 : Int32)), .val (.ref b4), .val (.long (6 : Int64)), .second, .unset, .unset, .unset]) rfl ?_
    show Steps p.tables e below (T5.setTop (mkF m 46 #[.val (.long q1), .second, .val (.int p2), .val (.int p3), .val (.int (p2 &&& (7 : Int32))), .val (.int (1 : Int32)), .val (.int (0 : Int32)), .val (.ref b4), .val (.long (6 : Int64)), .second, .unset, .unset, .unset] [])) _
    refine XS.iload X5.here hx rfl (hb hby at_46) rfl ?_
    show Steps p.tables e below (T5.setTop (mkF m 48 #[.val (.long q1), .second, .val (.int p2), .val (.int p3), .val (.int (p2 &&& (7 : Int32))), .val (.int (1 : Int32)), .val (.int (0 : Int32)), .val (.ref b4), .val (.long (6 : Int64)), .second, .unset, .unset, .unset] [(.int (1 : Int32))])) _
    refine XS.ifNo X5.here hx rfl (hb hby at_48) rfl ((if0 _ _).trans (feq hc48).1) ?_
    show Steps p.tables e below (T5.setTop (mkF m 51 #[.val (.long q1), .second, .val (.int p2), .val (.int p3), .val (.int (p2 &&& (7 : Int32))), .val (.int (1 : Int32)), .val (.int (0 : Int32)), .val (.ref b4), .val (.long (6 : Int64)), .second, .unset, .unset, .unset] [])) _
    refine XS.aload X5.here hx rfl (hb hby at_51) rfl rfl ?_
    show Steps p.tables e below (T5.setTop (mkF m 53 #[.val (.long q1), .second, .val (.int p2), .val (.int p3), .val (.int (p2 &&& (7 : Int32))), .val (.int (1 : Int32)), .val (.int (0 : Int32)), .val (.ref b4), .val (.long (6 : Int64)), .second, .unset, .unset, .unset] [(.ref b4)])) _
    refine X5.ldc2Long hx hown (mvT hZ (hw _ (List.mem_of_getElem? (i := 28) rfl))) (g := (mkF m 53 #[.val (.long q1), .second, .val (.int p2), .val (.int p3), .val (.int (p2 &&& (7 : Int32))), .val (.int (1 : Int32)), .val (.int (0 : Int32)), .val (.ref b4), .val (.long (6 : Int64)), .second, .unset, .unset, .unset] [(.ref b4)])) rfl (hb hby at_53) _ ?_
    show Steps p.tables e below (T5.setTop (mkF m 56 #[.val (.long q1), .second, .val (.int p2), .val (.int p3), .val (.int (p2 &&& (7 : Int32))), .val (.int (1 : Int32)), .val (.int (0 : Int32)), .val (.ref b4), .val (.long (6 : Int64)), .second, .unset, .unset, .unset] [(.long (6 : Int64)), (.ref b4)])) _
    refine XS.iload X5.here hx rfl (hb hby at_56) rfl ?_
    show Steps p.tables e below (T5.setTop (mkF m 58 #[.val (.long q1), .second, .val (.int p2), .val (.int p3), .val (.int (p2 &&& (7 : Int32))), .val (.int (1 : Int32)), .val (.int (0 : Int32)), .val (.ref b4), .val (.long (6 : Int64)), .second, .unset, .unset, .unset] [(.int (p2 &&& (7 : Int32))), (.long (6 : Int64)), (.ref b4)])) _
    refine XS.lshl X5.here hx rfl (hb hby at_58) rfl ?_
    show Steps p.tables e below (T5.setTop (mkF m 59 #[.val (.long q1), .second, .val (.int p2), .val (.int p3), .val (.int (p2 &&& (7 : Int32))), .val (.int (1 : Int32)), .val (.int (0 : Int32)), .val (.ref b4), .val (.long (6 : Int64)), .second, .unset, .unset, .unset] [(.long ((6 : Int64) <<< ((p2 &&& (7 : Int32)) &&& 0x3f).toInt64)), (.ref b4)])) _
    refine st6.trans ?_
    show Steps p.tables e below (T6.setTop (mkF m 62 #[.val (.long q1), .second, .val (.int p2), .val (.int p3), .val (.int (p2 &&& (7 : Int32))), .val (.int (1 : Int32)), .val (.int (0 : Int32)), .val (.ref b4), .val (.long (6 : Int64)), .second, .unset, .unset, .unset] [])) _
    refine X6.ldc2Long hx hown (mvT hZ (hw _ (List.mem_of_getElem? (i := 28) rfl))) (g := (mkF m 62 #[.val (.long q1), .second, .val (.int p2), .val (.int p3), .val (.int (p2 &&& (7 : Int32))), .val (.int (1 : Int32)), .val (.int (0 : Int32)), .val (.ref b4), .val (.long (6 : Int64)), .second, .unset, .unset, .unset] [])) rfl (hb hby at_62) _ ?_
    show Steps p.tables e below (T6.setTop (mkF m 65 #[.val (.long q1), .second, .val (.int p2), .val (.int p3), .val (.int (p2 &&& (7 : Int32))), .val (.int (1 : Int32)), .val (.int (0 : Int32)), .val (.ref b4), .val (.long (6 : Int64)), .second, .unset, .unset, .unset] [(.long (6 : Int64))])) _
    refine XS.iload X6.here hx rfl (hb hby at_65) rfl ?_
    show Steps p.tables e below (T6.setTop (mkF m 67 #[.val (.long q1), .second, .val (.int p2), .val (.int p3), .val (.int (p2 &&& (7 : Int32))), .val (.int (1 : Int32)), .val (.int (0 : Int32)), .val (.ref b4), .val (.long (6 : Int64)), .second, .unset, .unset, .unset] [(.int (p2 &&& (7 : Int32))), (.long (6 : Int64))])) _
    refine XS.lshl X6.here hx rfl (hb hby at_67) rfl ?_
    show Steps p.tables e below (T6.setTop (mkF m 68 #[.val (.long q1), .second, .val (.int p2), .val (.int p3), .val (.int (p2 &&& (7 : Int32))), .val (.int (1 : Int32)), .val (.int (0 : Int32)), .val (.ref b4), .val (.long (6 : Int64)), .second, .unset, .unset, .unset] [(.long ((6 : Int64) <<< ((p2 &&& (7 : Int32)) &&& 0x3f).toInt64))])) _
    refine XS.lstore X6.here hx rfl (hb hby at_68) rfl (l' := #[.val (.long q1), .second, .val (.int p2), .val (.int p3), .val (.int (p2 &&& (7 : Int32))), .val (.int (1 : Int32)), .val (.int (0 : Int32)), .val (.ref b4), .val (.long ((6 : Int64) <<< ((p2 &&& (7 : Int32)) &&& 0x3f).toInt64)), .second, .unset, .unset, .unset]) rfl ?_
    show Steps p.tables e below (T6.setTop (mkF m 70 #[.val (.long q1), .second, .val (.int p2), .val (.int p3), .val (.int (p2 &&& (7 : Int32))), .val (.int (1 : Int32)), .val (.int (0 : Int32)), .val (.ref b4), .val (.long ((6 : Int64) <<< ((p2 &&& (7 : Int32)) &&& 0x3f).toInt64)), .second, .unset, .unset, .unset] [])) _
    refine XS.iload X6.here hx rfl (hb hby at_70) rfl ?_
    show Steps p.tables e below (T6.setTop (mkF m 72 #[.val (.long q1), .second, .val (.int p2), .val (.int p3), .val (.int (p2 &&& (7 : Int32))), .val (.int (1 : Int32)), .val (.int (0 : Int32)), .val (.ref b4), .val (.long ((6 : Int64) <<< ((p2 &&& (7 : Int32)) &&& 0x3f).toInt64)), .second, .unset, .unset, .unset] [(.int (0 : Int32))])) _
    refine XS.ifYes X6.here hx rfl (pc0 := 72) (pc' := 79) rfl (hb hby at_72) rfl ((if0 _ _).trans (teq (rfl : (0 : Int32) = (0 : Int32))).1) (by decide) (by decide) ?_
    show Steps p.tables e below (T6.setTop (mkF m 79 #[.val (.long q1), .second, .val (.int p2), .val (.int p3), .val (.int (p2 &&& (7 : Int32))), .val (.int (1 : Int32)), .val (.int (0 : Int32)), .val (.ref b4), .val (.long ((6 : Int64) <<< ((p2 &&& (7 : Int32)) &&& 0x3f).toInt64)), .second, .unset, .unset, .unset] [])) _
    refine XS.lload X6.here hx rfl (hb hby at_79) rfl ?_
    show Steps p.tables e below (T6.setTop (mkF m 81 #[.val (.long q1), .second, .val (.int p2), .val (.int p3), .val (.int (p2 &&& (7 : Int32))), .val (.int (1 : Int32)), .val (.int (0 : Int32)), .val (.ref b4), .val (.long ((6 : Int64) <<< ((p2 &&& (7 : Int32)) &&& 0x3f).toInt64)), .second, .unset, .unset, .unset] [(.long ((6 : Int64) <<< ((p2 &&& (7 : Int32)) &&& 0x3f).toInt64))])) _
    refine XS.lloadN X6.here hx rfl (hb hby at_81) rfl ?_
    show Steps p.tables e below (T6.setTop (mkF m 82 #[.val (.long q1), .second, .val (.int p2), .val (.int p3), .val (.int (p2 &&& (7 : Int32))), .val (.int (1 : Int32)), .val (.int (0 : Int32)), .val (.ref b4), .val (.long ((6 : Int64) <<< ((p2 &&& (7 : Int32)) &&& 0x3f).toInt64)), .second, .unset, .unset, .unset] [(.long q1), (.long ((6 : Int64) <<< ((p2 &&& (7 : Int32)) &&& 0x3f).toInt64))])) _
    refine X6.ldc2Long hx hown (mvT hZ (hw _ (List.mem_of_getElem? (i := 44) rfl))) (g := (mkF m 82 #[.val (.long q1), .second, .val (.int p2), .val (.int p3), .val (.int (p2 &&& (7 : Int32))), .val (.int (1 : Int32)), .val (.int (0 : Int32)), .val (.ref b4), .val (.long ((6 : Int64) <<< ((p2 &&& (7 : Int32)) &&& 0x3f).toInt64)), .second, .unset, .unset, .unset] [(.long q1), (.long ((6 : Int64) <<< ((p2 &&& (7 : Int32)) &&& 0x3f).toInt64))])) rfl (hb hby at_82) _ ?_
    show Steps p.tables e below (T6.setTop (mkF m 85 #[.val (.long q1), .second, .val (.int p2), .val (.int p3), .val (.int (p2 &&& (7 : Int32))), .val (.int (1 : Int32)), .val (.int (0 : Int32)), .val (.ref b4), .val (.long ((6 : Int64) <<< ((p2 &&& (7 : Int32)) &&& 0x3f).toInt64)), .second, .unset, .unset, .unset] [(.long (4 : Int64)), (.long q1), (.long ((6 : Int64) <<< ((p2 &&& (7 : Int32)) &&& 0x3f).toInt64))])) _
    refine XS.lrem X6.here hx rfl (hb hby at_85) rfl hnz85 ?_
    rw [lrem_mod]
    show Steps p.tables e below (T6.setTop (mkF m 86 #[.val (.long q1), .second, .val (.int p2), .val (.int p3), .val (.int (p2 &&& (7 : Int32))), .val (.int (1 : Int32)), .val (.int (0 : Int32)), .val (.ref b4), .val (.long ((6 : Int64) <<< ((p2 &&& (7 : Int32)) &&& 0x3f).toInt64)), .second, .unset, .unset, .unset] [(.long (q1 % (4 : Int64))), (.long ((6 : Int64) <<< ((p2 &&& (7 : Int32)) &&& 0x3f).toInt64))])) _
    refine XS.ladd X6.here hx rfl (hb hby at_86) rfl ?_
    show Steps p.tables e below (T6.setTop (mkF m 87 #[.val (.long q1), .second, .val (.int p2), .val (.int p3), .val (.int (p2 &&& (7 : Int32))), .val (.int (1 : Int32)), .val (.int (0 : Int32)), .val (.ref b4), .val (.long ((6 : Int64) <<< ((p2 &&& (7 : Int32)) &&& 0x3f).toInt64)), .second, .unset, .unset, .unset] [(.long (((6 : Int64) <<< ((p2 &&& (7 : Int32)) &&& 0x3f).toInt64) + (q1 % (4 : Int64))))])) _
    refine XS.lstore X6.here hx rfl (hb hby at_87) rfl (l' := #[.val (.long q1), .second, .val (.int p2), .val (.int p3), .val (.int (p2 &&& (7 : Int32))), .val (.int (1 : Int32)), .val (.int (0 : Int32)), .val (.ref b4), .val (.long ((6 : Int64) <<< ((p2 &&& (7 : Int32)) &&& 0x3f).toInt64)), .second, .val (.long (((6 : Int64) <<< ((p2 &&& (7 : Int32)) &&& 0x3f).toInt64) + (q1 % (4 : Int64)))), .second, .unset]) rfl ?_
    show Steps p.tables e below (T6.setTop (mkF m 89 #[.val (.long q1), .second, .val (.int p2), .val (.int p3), .val (.int (p2 &&& (7 : Int32))), .val (.int (1 : Int32)), .val (.int (0 : Int32)), .val (.ref b4), .val (.long ((6 : Int64) <<< ((p2 &&& (7 : Int32)) &&& 0x3f).toInt64)), .second, .val (.long (((6 : Int64) <<< ((p2 &&& (7 : Int32)) &&& 0x3f).toInt64) + (q1 % (4 : Int64)))), .second, .unset] [])) _
    refine XS.lload X6.here hx rfl (hb hby at_89) rfl ?_
    show Steps p.tables e below (T6.setTop (mkF m 91 #[.val (.long q1), .second, .val (.int p2), .val (.int p3), .val (.int (p2 &&& (7 : Int32))), .val (.int (1 : Int32)), .val (.int (0 : Int32)), .val (.ref b4), .val (.long ((6 : Int64) <<< ((p2 &&& (7 : Int32)) &&& 0x3f).toInt64)), .second, .val (.long (((6 : Int64) <<< ((p2 &&& (7 : Int32)) &&& 0x3f).toInt64) + (q1 % (4 : Int64)))), .second, .unset] [(.long (((6 : Int64) <<< ((p2 &&& (7 : Int32)) &&& 0x3f).toInt64) + (q1 % (4 : Int64))))])) _
    refine XS.lload X6.here hx rfl (hb hby at_91) rfl ?_
    show Steps p.tables e below (T6.setTop (mkF m 93 #[.val (.long q1), .second, .val (.int p2), .val (.int p3), .val (.int (p2 &&& (7 : Int32))), .val (.int (1 : Int32)), .val (.int (0 : Int32)), .val (.ref b4), .val (.long ((6 : Int64) <<< ((p2 &&& (7 : Int32)) &&& 0x3f).toInt64)), .second, .val (.long (((6 : Int64) <<< ((p2 &&& (7 : Int32)) &&& 0x3f).toInt64) + (q1 % (4 : Int64)))), .second, .unset] [(.long ((6 : Int64) <<< ((p2 &&& (7 : Int32)) &&& 0x3f).toInt64)), (.long (((6 : Int64) <<< ((p2 &&& (7 : Int32)) &&& 0x3f).toInt64) + (q1 % (4 : Int64))))])) _
    refine XS.lcmp X6.here hx rfl (hb hby at_93) rfl ?_
    show Steps p.tables e below (T6.setTop (mkF m 94 #[.val (.long q1), .second, .val (.int p2), .val (.int p3), .val (.int (p2 &&& (7 : Int32))), .val (.int (1 : Int32)), .val (.int (0 : Int32)), .val (.ref b4), .val (.long ((6 : Int64) <<< ((p2 &&& (7 : Int32)) &&& 0x3f).toInt64)), .second, .val (.long (((6 : Int64) <<< ((p2 &&& (7 : Int32)) &&& 0x3f).toInt64) + (q1 % (4 : Int64)))), .second, .unset] [(.int (lcmpW (((6 : Int64) <<< ((p2 &&& (7 : Int32)) &&& 0x3f).toInt64) + (q1 % (4 : Int64))) ((6 : Int64) <<< ((p2 &&& (7 : Int32)) &&& 0x3f).toInt64)))])) _
    refine XS.ifYes X6.here hx rfl (pc0 := 94) (pc' := 101) rfl (hb hby at_94) rfl ((if0 _ _).trans (tlt hc94).2.2.1) (by decide) (by decide) ?_
    show Steps p.tables e below (T6.setTop (mkF m 101 #[.val (.long q1), .second, .val (.int p2), .val (.int p3), .val (.int (p2 &&& (7 : Int32))), .val (.int (1 : Int32)), .val (.int (0 : Int32)), .val (.ref b4), .val (.long ((6 : Int64) <<< ((p2 &&& (7 : Int32)) &&& 0x3f).toInt64)), .second, .val (.long (((6 : Int64) <<< ((p2 &&& (7 : Int32)) &&& 0x3f).toInt64) + (q1 % (4 : Int64)))), .second, .unset] [])) _
    refine XS.iconst X6.here hx rfl (hb hby at_101) ?_
    show Steps p.tables e below (T6.setTop (mkF m 102 #[.val (.long q1), .second, .val (.int p2), .val (.int p3), .val (.int (p2 &&& (7 : Int32))), .val (.int (1 : Int32)), .val (.int (0 : Int32)), .val (.ref b4), .val (.long ((6 : Int64) <<< ((p2 &&& (7 : Int32)) &&& 0x3f).toInt64)), .second, .val (.long (((6 : Int64) <<< ((p2 &&& (7 : Int32)) &&& 0x3f).toInt64) + (q1 % (4 : Int64)))), .second, .unset] [(.int (0 : Int32))])) _
    refine XS.istore X6.here hx rfl (hb hby at_102) rfl (l' := #[.val (.long q1), .second, .val (.int p2), .val (.int p3), .val (.int (p2 &&& (7 : Int32))), .val (.int (1 : Int32)), .val (.int (0 : Int32)), .val (.ref b4), .val (.long ((6 : Int64) <<< ((p2 &&& (7 : Int32)) &&& 0x3f).toInt64)), .second, .val (.long (((6 : Int64) <<< ((p2 &&& (7 : Int32)) &&& 0x3f).toInt64) + (q1 % (4 : Int64)))), .second, .val (.int (0 : Int32))]) rfl ?_
    show Steps p.tables e below (T6.setTop (mkF m 104 #[.val (.long q1), .second, .val (.int p2), .val (.int p3), .val (.int (p2 &&& (7 : Int32))), .val (.int (1 : Int32)), .val (.int (0 : Int32)), .val (.ref b4), .val (.long ((6 : Int64) <<< ((p2 &&& (7 : Int32)) &&& 0x3f).toInt64)), .second, .val (.long (((6 : Int64) <<< ((p2 &&& (7 : Int32)) &&& 0x3f).toInt64) + (q1 % (4 : Int64)))), .second, .val (.int (0 : Int32))] [])) _
    refine XS.aload X6.here hx rfl (hb hby at_104) rfl rfl ?_
    show Steps p.tables e below (T6.setTop (mkF m 106 #[.val (.long q1), .second, .val (.int p2), .val (.int p3), .val (.int (p2 &&& (7 : Int32))), .val (.int (1 : Int32)), .val (.int (0 : Int32)), .val (.ref b4), .val (.long ((6 : Int64) <<< ((p2 &&& (7 : Int32)) &&& 0x3f).toInt64)), .second, .val (.long (((6 : Int64) <<< ((p2 &&& (7 : Int32)) &&& 0x3f).toInt64) + (q1 % (4 : Int64)))), .second, .val (.int (0 : Int32))] [(.ref b4)])) _
    refine XS.lload X6.here hx rfl (hb hby at_106) rfl ?_
    show Steps p.tables e below (T6.setTop (mkF m 108 #[.val (.long q1), .second, .val (.int p2), .val (.int p3), .val (.int (p2 &&& (7 : Int32))), .val (.int (1 : Int32)), .val (.int (0 : Int32)), .val (.ref b4), .val (.long ((6 : Int64) <<< ((p2 &&& (7 : Int32)) &&& 0x3f).toInt64)), .second, .val (.long (((6 : Int64) <<< ((p2 &&& (7 : Int32)) &&& 0x3f).toInt64) + (q1 % (4 : Int64)))), .second, .val (.int (0 : Int32))] [(.long (((6 : Int64) <<< ((p2 &&& (7 : Int32)) &&& 0x3f).toInt64) + (q1 % (4 : Int64)))), (.ref b4)])) _
    refine st7.trans ?_
    show Steps p.tables e below (T7.setTop (mkF m 111 #[.val (.long q1), .second, .val (.int p2), .val (.int p3), .val (.int (p2 &&& (7 : Int32))), .val (.int (1 : Int32)), .val (.int (0 : Int32)), .val (.ref b4), .val (.long ((6 : Int64) <<< ((p2 &&& (7 : Int32)) &&& 0x3f).toInt64)), .second, .val (.long (((6 : Int64) <<< ((p2 &&& (7 : Int32)) &&& 0x3f).toInt64) + (q1 % (4 : Int64)))), .second, .val (.int (0 : Int32))] [(.int (0 : Int32))])) _
    refine XS.iload X7.here hx rfl (hb hby at_111) rfl ?_
    show Steps p.tables e below (T7.setTop (mkF m 113 #[.val (.long q1), .second, .val (.int p2), .val (.int p3), .val (.int (p2 &&& (7 : Int32))), .val (.int (1 : Int32)), .val (.int (0 : Int32)), .val (.ref b4), .val (.long ((6 : Int64) <<< ((p2 &&& (7 : Int32)) &&& 0x3f).toInt64)), .second, .val (.long (((6 : Int64) <<< ((p2 &&& (7 : Int32)) &&& 0x3f).toInt64) + (q1 % (4 : Int64)))), .second, .val (.int (0 : Int32))] [(.int (0 : Int32)), (.int (0 : Int32))])) _
    refine XS.icmpNo X7.here hx rfl (hb hby at_113) rfl (teq (rfl : (0 : Int32) = (0 : Int32))).2 ?_
    show Steps p.tables e below (T7.setTop (mkF m 116 #[.val (.long q1), .second, .val (.int p2), .val (.int p3), .val (.int (p2 &&& (7 : Int32))), .val (.int (1 : Int32)), .val (.int (0 : Int32)), .val (.ref b4), .val (.long ((6 : Int64) <<< ((p2 &&& (7 : Int32)) &&& 0x3f).toInt64)), .second, .val (.long (((6 : Int64) <<< ((p2 &&& (7 : Int32)) &&& 0x3f).toInt64) + (q1 % (4 : Int64)))), .second, .val (.int (0 : Int32))] [])) _
    refine XS.iconst X7.here hx rfl (hb hby at_116) ?_
    show Steps p.tables e below (T7.setTop (mkF m 117 #[.val (.long q1), .second, .val (.int p2), .val (.int p3), .val (.int (p2 &&& (7 : Int32))), .val (.int (1 : Int32)), .val (.int (0 : Int32)), .val (.ref b4), .val (.long ((6 : Int64) <<< ((p2 &&& (7 : Int32)) &&& 0x3f).toInt64)), .second, .val (.long (((6 : Int64) <<< ((p2 &&& (7 : Int32)) &&& 0x3f).toInt64) + (q1 % (4 : Int64)))), .second, .val (.int (0 : Int32))] [(.int (1 : Int32))])) _
    refine XS.goto X7.here hx rfl (pc0 := 117) (pc' := 121) rfl (hb hby at_117) (by decide) (by decide) ?_
    show Steps p.tables e below (T7.setTop (mkF m 121 #[.val (.long q1), .second, .val (.int p2), .val (.int p3), .val (.int (p2 &&& (7 : Int32))), .val (.int (1 : Int32)), .val (.int (0 : Int32)), .val (.ref b4), .val (.long ((6 : Int64) <<< ((p2 &&& (7 : Int32)) &&& 0x3f).toInt64)), .second, .val (.long (((6 : Int64) <<< ((p2 &&& (7 : Int32)) &&& 0x3f).toInt64) + (q1 % (4 : Int64)))), .second, .val (.int (0 : Int32))] [(.int (1 : Int32))])) _
    exact retN X7 hx (t := .boolean) Bd.returns (by simp) (hb hby at_121) hr
  · show Qz  h0 n0 _ T7.heap _
    rw [hh7]
    exact ⟨rfl, N7⟩
set_option maxRecDepth 65536 in
set_option maxHeartbeats 40000000 in
theorem rm0_tftfff (l : Launch) (Z : State) (a0 : Array Value) (hw : ∀ d ∈ tables_1, d.before a0 Z = true) (ws : List Jvm.Cond) (q1 : Int64) (p2 : Int32) (p3 : Int32) (h0 : Heap) (n0 : Nat) (Z0 : n0 ≤ h0.size) (hcap : ((((8 : Int32) / (4 : Int32)) * (3 : Int32)).toInt64) = (6 : Int64)) (hc9 : (p3 &&& (2 : Int32)) = (0 : Int32)) (hc22 : ¬ ((p3 &&& (1 : Int32)) = (0 : Int32))) (hc72 : ¬ ((1 : Int32) = (0 : Int32))) (hc94 : ¬ ((0 : Int32) < (lcmpW q1 (6 : Int64)))) :
    MetFree l x (head1 (Jvm.Cond.code x code maxLocals ret :: ws) room_1) (fun a U => a = #[(.long q1), (.int p2), (.int p3)] ∧ Z.Warmed39 U.vm ∧ U.heap = h0) (fun _ _ _ _ _ => True) (fun _ U o U' => ∃ v L, o = .returned v ∧ Qz  h0 n0 v U'.heap L ∧ FrameEnd U o U' L room_1.cells room_1.slots) := by
  refine MetFree.of_bodySF (plainFor_of_name pn_0) hisR ?_
  intro p e s m args below meth c s₁ Bd hml0 hP hK
  obtain ⟨rfl, hZ, hh⟩ := hP
  have hx := Bd.exec
  have hby := Bd.bytes
  have hml : c.maxLocals = 13 := hml0
  have hown : s.vm.findClass "com/example/wheredb/wheredb/storage/MemorySetHasRoomForPinLaw" = some m.cls := findClass_of_methodNamed Bd.named
  have hnm := (name_of_methodNamed Bd.named Bd.method).1
  have X0 : Stand p l e room_1 s m #[(.long q1), (.int p2), (.int p3)] below meth c s₁ [] 0 0 := Stand.of_body Bd
  have e0 : s₁.heap = h0 := by rw [← hh, Bd.state]; rfl
  have N0 := Fr.nil n0
  have pre0 : ∀ t, Steps p.tables e below (s₁.setTop (mkF m 0 #[.val (.long q1), .second, .val (.int p2), .val (.int p3), .unset, .unset, .unset, .unset, .unset, .unset, .unset, .unset, .unset] [])) t → Steps p.tables e below (s₁.setTop (entryFrame m #[(.long q1), (.int p2), (.int p3)] maxLocals)) t := fun t k => castTop (ef_0 m q1 p2 p3) k
  obtain ⟨T4, h4, X4, e4, E4, A4, D4, -, st4⟩ := newO X0 hx hZ hown (hw _ (List.mem_of_getElem? (i := 0) rfl)) (hw _ (List.mem_of_getElem? (i := 1) rfl)) (hw _ (List.mem_of_getElem? (i := 2) rfl)) e0 (g := (mkF m 32 #[.val (.long q1), .second, .val (.int p2), .val (.int p3), .val (.int (p2 &&& (7 : Int32))), .val (.int (0 : Int32)), .val (.int (1 : Int32)), .unset, .unset, .unset, .unset, .unset, .unset] [])) rfl (hb hby at_32) (by decide) (by decide)
  obtain ⟨b4, g4⟩ : ∃ z, z = h0.size := ⟨_, rfl⟩
  rw [← g4] at A4 D4 st4
  have F_chunks_b4 : Fld Z h4 b4 "com/example/wheredb/wheredb/storage/MemorySet" "chunks" "[Lcom/example/wheredb/wheredb/storage/MemorySet$Chunk;" .null := D4 (Or.inl (hw _ (List.mem_of_getElem? (i := 12) rfl))) (ty := (.array (.object "com/example/wheredb/wheredb/storage/MemorySet$Chunk"))) (by decide)
  have F_lastCells_b4 : Fld Z h4 b4 "com/example/wheredb/wheredb/storage/MemorySet" "lastCells" "[J" .null := D4 (Or.inl (hw _ (List.mem_of_getElem? (i := 15) rfl))) (ty := (.array .long)) (by decide)
  have F_slotHashes_b4 : Fld Z h4 b4 "com/example/wheredb/wheredb/storage/MemorySet" "slotHashes" "[I" .null := D4 (Or.inl (hw _ (List.mem_of_getElem? (i := 18) rfl))) (ty := (.array .int)) (by decide)
  have F_slotCells_b4 : Fld Z h4 b4 "com/example/wheredb/wheredb/storage/MemorySet" "slotCells" "[J" .null := D4 (Or.inl (hw _ (List.mem_of_getElem? (i := 20) rfl))) (ty := (.array .long)) (by decide)
  have F_slotShift_b4 : Fld Z h4 b4 "com/example/wheredb/wheredb/storage/MemorySet" "slotShift" "I" (.int (0 : Int32)) := D4 (Or.inl (hw _ (List.mem_of_getElem? (i := 27) rfl))) (ty := .int) (by decide)
  have E_b4 := A4
  have g_b4 : n0 ≤ b4 := Nat.le_trans Z0 (Nat.le_of_eq g4.symm)
  have sz_b4 : h0.size ≤ b4 := (Nat.le_trans (Keep.refl h0 []).1 (Nat.le_of_eq g4.symm))
  have K4 : Keep h0 h4 [] := (Keep.refl h0 []).ext E4
  obtain ⟨_, _, ⟨T5, L5, k5, n5⟩, -, X5, ⟨Lc5, hQ5, l5, y5, z5⟩, st5⟩ := X4.specialBack hx (y := (⟨"com/example/wheredb/wheredb/storage/MemorySet", "<init>", "()V"⟩ : MethodName)) rfl hown (mvT hZ (hw _ (List.mem_of_getElem? (i := 3) rfl))) (mvT hZ (hw _ (List.mem_of_getElem? (i := 4) rfl))) (mvT hZ (hw _ (List.mem_of_getElem? (i := 5) rfl))) (by decide) (backOf (W := 1) (rm1 l Z a0 hw [] b4 .null .null .null .null (.int (0 : Int32)) h4 n0 (Nat.le_trans Z0 E4.1) E_b4 F_chunks_b4 g_b4 F_lastCells_b4 F_slotHashes_b4 F_slotCells_b4 F_slotShift_b4) hZ (hw _ (List.mem_of_getElem? (i := 5) rfl)) (hw _ (List.mem_of_getElem? (i := 2) rfl)) (by decide) (by decide)) (g := (mkF m 36 #[.val (.long q1), .second, .val (.int p2), .val (.int p3), .val (.int (p2 &&& (7 : Int32))), .val (.int (0 : Int32)), .val (.int (1 : Int32)), .unset, .unset, .unset, .unset, .unset, .unset] [(.ref b4), (.ref b4)])) rfl (by rw [hml]; rfl) (Steps.refl _) (a := b4) (argsL := []) (rest := [(.ref b4)]) (lenOf pd_0_0 rfl) rfl (by show 2 * 0 + _ ≤ _; exact Nat.le_of_eq rfl) (hb hby at_36) (fun _ _ => ⟨rfl, e4, (by decide : 1 + 4 ≤ _), (by decide : 7 + 24 ≤ _)⟩)
  dsimp only [Pt.U, Pt.locs, Pt.cells, Pt.slots] at X5 l5 y5 z5 st5 hQ5
  subst l5 y5 z5
  obtain ⟨rfl, N5q, Kc5, Ec5, bh5, bc5, kb5, rs5, Fh5, Fs5, Ft5, Vb5⟩ := hQ5
  have N5 := Fr.app N0 N5q
  have K5 : Keep h0 T5.heap [] := K4.trans Kc5 (allS (Or.inr sz_b4) all0)
  obtain ⟨cl_c6, Ar_c6, -, S_c6, N_c6, -, -⟩ := Vb5
  obtain ⟨cq6, kq6, q6a, q6b, q6c⟩ := isOf hZ rfl Ec5
  obtain ⟨_, _, ⟨T6, L6, k6, n6⟩, -, X6, ⟨Lc6, hQ6, l6, y6, z6⟩, st6⟩ := X5.virtualBack hx (y := (⟨"com/example/wheredb/wheredb/storage/MemorySet", "hasRoomFor", "(J)Z"⟩ : MethodName)) (z := (⟨"com/example/wheredb/wheredb/storage/MemorySet", "hasRoomFor", "(J)Z"⟩ : MethodName)) hown (mvT hZ (hw _ (List.mem_of_getElem? (i := 29) rfl))) (mvT hZ (hw _ (List.mem_of_getElem? (i := 30) rfl))) (notFace_of_selects (args := #[]) (mvT hZ (hw _ (List.mem_of_getElem? (i := 32) rfl)))) (mvT hZ (hw _ (List.mem_of_getElem? (i := 32) rfl))) (mvT hZ (hw _ (List.mem_of_getElem? (i := 31) rfl))) (by decide) (backOf (W := 0) (rm4_f l Z a0 hw [] b4 q1 bh5 cl_c6 (8 : Int32) T5.heap n0 (Nat.le_trans (Nat.le_trans Z0 E4.1) Kc5.1) Fh5 Ar_c6 S_c6 N_c6 (by decide) (by rw [hcap]; exact hc94)) hZ (hw _ (List.mem_of_getElem? (i := 33) rfl)) (hw _ (List.mem_of_getElem? (i := 2) rfl)) (by decide) (by decide)) q6a q6c (g := (mkF m 108 #[.val (.long q1), .second, .val (.int p2), .val (.int p3), .val (.int (p2 &&& (7 : Int32))), .val (.int (0 : Int32)), .val (.int (1 : Int32)), .val (.ref b4), .val (.long (6 : Int64)), .second, .val (.long q1), .second, .val (.int (1 : Int32))] [(.long q1), (.ref b4)])) rfl (by rw [hml]; rfl) (Steps.refl _) (argsL := [(.long q1)]) (rest := []) (lenOf pd_0_2 rfl) rfl (by show 2 * 0 + _ ≤ _; exact Nat.le_of_eq rfl) (hb hby at_108) (fun _ _ => ⟨rfl, rfl, (by decide : 5 + 0 ≤ _), (by decide : 31 + 0 ≤ _)⟩)
  dsimp only [Pt.U, Pt.locs, Pt.cells, Pt.slots] at X6 l6 y6 z6 st6 hQ6
  subst l6 y6 z6
  obtain ⟨rfl, N6q, hh6⟩ := hQ6
  have N6 := Fr.app N5 N6q
  obtain ⟨fs, hr, hrun, hended, hW, hsame⟩ := X6.leave (v := some (.int (1 : Int32))) (fun h => by rw [Bd.returns] at h; cases h)
  refine ⟨_, _, pre0 _ ?_, hrun, hended, _, _, rfl, ?_, ⟨_, rfl⟩, hW, hsame.mono (by decide) (by decide)⟩
  · show Steps p.tables e below (s₁.setTop (mkF m 0 #[.val (.long q1), .second, .val (.int p2), .val (.int p3), .unset, .unset, .unset, .unset, .unset, .unset, .unset, .unset, .unset] [])) _
    refine XS.iloadN X0.here hx rfl (hb hby at_0) rfl ?_
    show Steps p.tables e below (s₁.setTop (mkF m 1 #[.val (.long q1), .second, .val (.int p2), .val (.int p3), .unset, .unset, .unset, .unset, .unset, .unset, .unset, .unset, .unset] [(.int p2)])) _
    refine XS.bipush X0.here hx rfl (hb hby at_1) ?_
    show Steps p.tables e below (s₁.setTop (mkF m 3 #[.val (.long q1), .second, .val (.int p2), .val (.int p3), .unset, .unset, .unset, .unset, .unset, .unset, .unset, .unset, .unset] [(.int (7 : Int32)), (.int p2)])) _
    refine XS.iand X0.here hx rfl (hb hby at_3) rfl ?_
    show Steps p.tables e below (s₁.setTop (mkF m 4 #[.val (.long q1), .second, .val (.int p2), .val (.int p3), .unset, .unset, .unset, .unset, .unset, .unset, .unset, .unset, .unset] [(.int (p2 &&& (7 : Int32)))])) _
    refine XS.istore X0.here hx rfl (hb hby at_4) rfl (l' := #[.val (.long q1), .second, .val (.int p2), .val (.int p3), .val (.int (p2 &&& (7 : Int32))), .unset, .unset, .unset, .unset, .unset, .unset, .unset, .unset]) rfl ?_
    show Steps p.tables e below (s₁.setTop (mkF m 6 #[.val (.long q1), .second, .val (.int p2), .val (.int p3), .val (.int (p2 &&& (7 : Int32))), .unset, .unset, .unset, .unset, .unset, .unset, .unset, .unset] [])) _
    refine XS.iloadN X0.here hx rfl (hb hby at_6) rfl ?_
    show Steps p.tables e below (s₁.setTop (mkF m 7 #[.val (.long q1), .second, .val (.int p2), .val (.int p3), .val (.int (p2 &&& (7 : Int32))), .unset, .unset, .unset, .unset, .unset, .unset, .unset, .unset] [(.int p3)])) _
    refine XS.iconst X0.here hx rfl (hb hby at_7) ?_
    show Steps p.tables e below (s₁.setTop (mkF m 8 #[.val (.long q1), .second, .val (.int p2), .val (.int p3), .val (.int (p2 &&& (7 : Int32))), .unset, .unset, .unset, .unset, .unset, .unset, .unset, .unset] [(.int (2 : Int32)), (.int p3)])) _
    refine XS.iand X0.here hx rfl (hb hby at_8) rfl ?_
    show Steps p.tables e below (s₁.setTop (mkF m 9 #[.val (.long q1), .second, .val (.int p2), .val (.int p3), .val (.int (p2 &&& (7 : Int32))), .unset, .unset, .unset, .unset, .unset, .unset, .unset, .unset] [(.int (p3 &&& (2 : Int32)))])) _
    refine XS.ifYes X0.here hx rfl (pc0 := 9) (pc' := 16) rfl (hb hby at_9) rfl ((if0 _ _).trans (teq hc9).1) (by decide) (by decide) ?_
    show Steps p.tables e below (s₁.setTop (mkF m 16 #[.val (.long q1), .second, .val (.int p2), .val (.int p3), .val (.int (p2 &&& (7 : Int32))), .unset, .unset, .unset, .unset, .unset, .unset, .unset, .unset] [])) _
    refine XS.iconst X0.here hx rfl (hb hby at_16) ?_
    show Steps p.tables e below (s₁.setTop (mkF m 17 #[.val (.long q1), .second, .val (.int p2), .val (.int p3), .val (.int (p2 &&& (7 : Int32))), .unset, .unset, .unset, .unset, .unset, .unset, .unset, .unset] [(.int (0 : Int32))])) _
    refine XS.istore X0.here hx rfl (hb hby at_17) rfl (l' := #[.val (.long q1), .second, .val (.int p2), .val (.int p3), .val (.int (p2 &&& (7 : Int32))), .val (.int (0 : Int32)), .unset, .unset, .unset, .unset, .unset, .unset, .unset]) rfl ?_
    show Steps p.tables e below (s₁.setTop (mkF m 19 #[.val (.long q1), .second, .val (.int p2), .val (.int p3), .val (.int (p2 &&& (7 : Int32))), .val (.int (0 : Int32)), .unset, .unset, .unset, .unset, .unset, .unset, .unset] [])) _
    refine XS.iloadN X0.here hx rfl (hb hby at_19) rfl ?_
    show Steps p.tables e below (s₁.setTop (mkF m 20 #[.val (.long q1), .second, .val (.int p2), .val (.int p3), .val (.int (p2 &&& (7 : Int32))), .val (.int (0 : Int32)), .unset, .unset, .unset, .unset, .unset, .unset, .unset] [(.int p3)])) _
    refine XS.iconst X0.here hx rfl (hb hby at_20) ?_
    show Steps p.tables e below (s₁.setTop (mkF m 21 #[.val (.long q1), .second, .val (.int p2), .val (.int p3), .val (.int (p2 &&& (7 : Int32))), .val (.int (0 : Int32)), .unset, .unset, .unset, .unset, .unset, .unset, .unset] [(.int (1 : Int32)), (.int p3)])) _
    refine XS.iand X0.here hx rfl (hb hby at_21) rfl ?_
    show Steps p.tables e below (s₁.setTop (mkF m 22 #[.val (.long q1), .second, .val (.int p2), .val (.int p3), .val (.int (p2 &&& (7 : Int32))), .val (.int (0 : Int32)), .unset, .unset, .unset, .unset, .unset, .unset, .unset] [(.int (p3 &&& (1 : Int32)))])) _
    refine XS.ifNo X0.here hx rfl (hb hby at_22) rfl ((if0 _ _).trans (feq hc22).1) ?_
    show Steps p.tables e below (s₁.setTop (mkF m 25 #[.val (.long q1), .second, .val (.int p2), .val (.int p3), .val (.int (p2 &&& (7 : Int32))), .val (.int (0 : Int32)), .unset, .unset, .unset, .unset, .unset, .unset, .unset] [])) _
    refine XS.iconst X0.here hx rfl (hb hby at_25) ?_
    show Steps p.tables e below (s₁.setTop (mkF m 26 #[.val (.long q1), .second, .val (.int p2), .val (.int p3), .val (.int (p2 &&& (7 : Int32))), .val (.int (0 : Int32)), .unset, .unset, .unset, .unset, .unset, .unset, .unset] [(.int (1 : Int32))])) _
    refine XS.goto X0.here hx rfl (pc0 := 26) (pc' := 30) rfl (hb hby at_26) (by decide) (by decide) ?_
    show Steps p.tables e below (s₁.setTop (mkF m 30 #[.val (.long q1), .second, .val (.int p2), .val (.int p3), .val (.int (p2 &&& (7 : Int32))), .val (.int (0 : Int32)), .unset, .unset, .unset, .unset, .unset, .unset, .unset] [(.int (1 : Int32))])) _
    refine XS.istore X0.here hx rfl (hb hby at_30) rfl (l' := #[.val (.long q1), .second, .val (.int p2), .val (.int p3), .val (.int (p2 &&& (7 : Int32))), .val (.int (0 : Int32)), .val (.int (1 : Int32)), .unset, .unset, .unset, .unset, .unset, .unset]) rfl ?_
    show Steps p.tables e below (s₁.setTop (mkF m 32 #[.val (.long q1), .second, .val (.int p2), .val (.int p3), .val (.int (p2 &&& (7 : Int32))), .val (.int (0 : Int32)), .val (.int (1 : Int32)), .unset, .unset, .unset, .unset, .unset, .unset] [])) _
    refine st4 _ ?_
    show Steps p.tables e below (T4.setTop (mkF m 35 #[.val (.long q1), .second, .val (.int p2), .val (.int p3), .val (.int (p2 &&& (7 : Int32))), .val (.int (0 : Int32)), .val (.int (1 : Int32)), .unset, .unset, .unset, .unset, .unset, .unset] [(.ref b4)])) _
    refine XS.dup X4.here hx rfl (hb hby at_35) rfl rfl ?_
    show Steps p.tables e below (T4.setTop (mkF m 36 #[.val (.long q1), .second, .val (.int p2), .val (.int p3), .val (.int (p2 &&& (7 : Int32))), .val (.int (0 : Int32)), .val (.int (1 : Int32)), .unset, .unset, .unset, .unset, .unset, .unset] [(.ref b4), (.ref b4)])) _
    refine st5.trans ?_
    show Steps p.tables e below (T5.setTop (mkF m 39 #[.val (.long q1), .second, .val (.int p2), .val (.int p3), .val (.int (p2 &&& (7 : Int32))), .val (.int (0 : Int32)), .val (.int (1 : Int32)), .unset, .unset, .unset, .unset, .unset, .unset] [(.ref b4)])) _
    refine XS.astore X5.here hx rfl (hb hby at_39) rfl rfl (l' := #[.val (.long q1), .second, .val (.int p2), .val (.int p3), .val (.int (p2 &&& (7 : Int32))), .val (.int (0 : Int32)), .val (.int (1 : Int32)), .val (.ref b4), .unset, .unset, .unset, .unset, .unset]) rfl ?_
    show Steps p.tables e below (T5.setTop (mkF m 41 #[.val (.long q1), .second, .val (.int p2), .val (.int p3), .val (.int (p2 &&& (7 : Int32))), .val (.int (0 : Int32)), .val (.int (1 : Int32)), .val (.ref b4), .unset, .unset, .unset, .unset, .unset] [])) _
    refine X5.ldc2Long hx hown (mvT hZ (hw _ (List.mem_of_getElem? (i := 28) rfl))) (g := (mkF m 41 #[.val (.long q1), .second, .val (.int p2), .val (.int p3), .val (.int (p2 &&& (7 : Int32))), .val (.int (0 : Int32)), .val (.int (1 : Int32)), .val (.ref b4), .unset, .unset, .unset, .unset, .unset] [])) rfl (hb hby at_41) _ ?_
    show Steps p.tables e below (T5.setTop (mkF m 44 #[.val (.long q1), .second, .val (.int p2), .val (.int p3), .val (.int (p2 &&& (7 : Int32))), .val (.int (0 : Int32)), .val (.int (1 : Int32)), .val (.ref b4), .unset, .unset, .unset, .unset, .unset] [(.long (6 : Int64))])) _
    refine XS.lstore X5.here hx rfl (hb hby at_44) rfl (l' := #[.val (.long q1), .second, .val (.int p2), .val (.int p3), .val (.int (p2 &&& (7 : Int32))), .val (.int (0 : Int32)), .val (.int (1 : Int32)), .val (.ref b4), .val (.long (6 : Int64)), .second, .unset, .unset, .unset]) rfl ?_
    show Steps p.tables e below (T5.setTop (mkF m 46 #[.val (.long q1), .second, .val (.int p2), .val (.int p3), .val (.int (p2 &&& (7 : Int32))), .val (.int (0 : Int32)), .val (.int (1 : Int32)), .val (.ref b4), .val (.long (6 : Int64)), .second, .unset, .unset, .unset] [])) _
    refine XS.iload X5.here hx rfl (hb hby at_46) rfl ?_
    show Steps p.tables e below (T5.setTop (mkF m 48 #[.val (.long q1), .second, .val (.int p2), .val (.int p3), .val (.int (p2 &&& (7 : Int32))), .val (.int (0 : Int32)), .val (.int (1 : Int32)), .val (.ref b4), .val (.long (6 : Int64)), .second, .unset, .unset, .unset] [(.int (0 : Int32))])) _
    refine XS.ifYes X5.here hx rfl (pc0 := 48) (pc' := 70) rfl (hb hby at_48) rfl ((if0 _ _).trans (teq (rfl : (0 : Int32) = (0 : Int32))).1) (by decide) (by decide) ?_
    show Steps p.tables e below (T5.setTop (mkF m 70 #[.val (.long q1), .second, .val (.int p2), .val (.int p3), .val (.int (p2 &&& (7 : Int32))), .val (.int (0 : Int32)), .val (.int (1 : Int32)), .val (.ref b4), .val (.long (6 : Int64)), .second, .unset, .unset, .unset] [])) _
    refine XS.iload X5.here hx rfl (hb hby at_70) rfl ?_
    show Steps p.tables e below (T5.setTop (mkF m 72 #[.val (.long q1), .second, .val (.int p2), .val (.int p3), .val (.int (p2 &&& (7 : Int32))), .val (.int (0 : Int32)), .val (.int (1 : Int32)), .val (.ref b4), .val (.long (6 : Int64)), .second, .unset, .unset, .unset] [(.int (1 : Int32))])) _
    refine XS.ifNo X5.here hx rfl (hb hby at_72) rfl ((if0 _ _).trans (feq hc72).1) ?_
    show Steps p.tables e below (T5.setTop (mkF m 75 #[.val (.long q1), .second, .val (.int p2), .val (.int p3), .val (.int (p2 &&& (7 : Int32))), .val (.int (0 : Int32)), .val (.int (1 : Int32)), .val (.ref b4), .val (.long (6 : Int64)), .second, .unset, .unset, .unset] [])) _
    refine XS.lloadN X5.here hx rfl (hb hby at_75) rfl ?_
    show Steps p.tables e below (T5.setTop (mkF m 76 #[.val (.long q1), .second, .val (.int p2), .val (.int p3), .val (.int (p2 &&& (7 : Int32))), .val (.int (0 : Int32)), .val (.int (1 : Int32)), .val (.ref b4), .val (.long (6 : Int64)), .second, .unset, .unset, .unset] [(.long q1)])) _
    refine XS.goto X5.here hx rfl (pc0 := 76) (pc' := 87) rfl (hb hby at_76) (by decide) (by decide) ?_
    show Steps p.tables e below (T5.setTop (mkF m 87 #[.val (.long q1), .second, .val (.int p2), .val (.int p3), .val (.int (p2 &&& (7 : Int32))), .val (.int (0 : Int32)), .val (.int (1 : Int32)), .val (.ref b4), .val (.long (6 : Int64)), .second, .unset, .unset, .unset] [(.long q1)])) _
    refine XS.lstore X5.here hx rfl (hb hby at_87) rfl (l' := #[.val (.long q1), .second, .val (.int p2), .val (.int p3), .val (.int (p2 &&& (7 : Int32))), .val (.int (0 : Int32)), .val (.int (1 : Int32)), .val (.ref b4), .val (.long (6 : Int64)), .second, .val (.long q1), .second, .unset]) rfl ?_
    show Steps p.tables e below (T5.setTop (mkF m 89 #[.val (.long q1), .second, .val (.int p2), .val (.int p3), .val (.int (p2 &&& (7 : Int32))), .val (.int (0 : Int32)), .val (.int (1 : Int32)), .val (.ref b4), .val (.long (6 : Int64)), .second, .val (.long q1), .second, .unset] [])) _
    refine XS.lload X5.here hx rfl (hb hby at_89) rfl ?_
    show Steps p.tables e below (T5.setTop (mkF m 91 #[.val (.long q1), .second, .val (.int p2), .val (.int p3), .val (.int (p2 &&& (7 : Int32))), .val (.int (0 : Int32)), .val (.int (1 : Int32)), .val (.ref b4), .val (.long (6 : Int64)), .second, .val (.long q1), .second, .unset] [(.long q1)])) _
    refine XS.lload X5.here hx rfl (hb hby at_91) rfl ?_
    show Steps p.tables e below (T5.setTop (mkF m 93 #[.val (.long q1), .second, .val (.int p2), .val (.int p3), .val (.int (p2 &&& (7 : Int32))), .val (.int (0 : Int32)), .val (.int (1 : Int32)), .val (.ref b4), .val (.long (6 : Int64)), .second, .val (.long q1), .second, .unset] [(.long (6 : Int64)), (.long q1)])) _
    refine XS.lcmp X5.here hx rfl (hb hby at_93) rfl ?_
    show Steps p.tables e below (T5.setTop (mkF m 94 #[.val (.long q1), .second, .val (.int p2), .val (.int p3), .val (.int (p2 &&& (7 : Int32))), .val (.int (0 : Int32)), .val (.int (1 : Int32)), .val (.ref b4), .val (.long (6 : Int64)), .second, .val (.long q1), .second, .unset] [(.int (lcmpW q1 (6 : Int64)))])) _
    refine XS.ifNo X5.here hx rfl (hb hby at_94) rfl ((if0 _ _).trans (flt hc94).2.2.1) ?_
    show Steps p.tables e below (T5.setTop (mkF m 97 #[.val (.long q1), .second, .val (.int p2), .val (.int p3), .val (.int (p2 &&& (7 : Int32))), .val (.int (0 : Int32)), .val (.int (1 : Int32)), .val (.ref b4), .val (.long (6 : Int64)), .second, .val (.long q1), .second, .unset] [])) _
    refine XS.iconst X5.here hx rfl (hb hby at_97) ?_
    show Steps p.tables e below (T5.setTop (mkF m 98 #[.val (.long q1), .second, .val (.int p2), .val (.int p3), .val (.int (p2 &&& (7 : Int32))), .val (.int (0 : Int32)), .val (.int (1 : Int32)), .val (.ref b4), .val (.long (6 : Int64)), .second, .val (.long q1), .second, .unset] [(.int (1 : Int32))])) _
    refine XS.goto X5.here hx rfl (pc0 := 98) (pc' := 102) rfl (hb hby at_98) (by decide) (by decide) ?_
    show Steps p.tables e below (T5.setTop (mkF m 102 #[.val (.long q1), .second, .val (.int p2), .val (.int p3), .val (.int (p2 &&& (7 : Int32))), .val (.int (0 : Int32)), .val (.int (1 : Int32)), .val (.ref b4), .val (.long (6 : Int64)), .second, .val (.long q1), .second, .unset] [(.int (1 : Int32))])) _
    refine XS.istore X5.here hx rfl (hb hby at_102) rfl (l' := #[.val (.long q1), .second, .val (.int p2), .val (.int p3), .val (.int (p2 &&& (7 : Int32))), .val (.int (0 : Int32)), .val (.int (1 : Int32)), .val (.ref b4), .val (.long (6 : Int64)), .second, .val (.long q1), .second, .val (.int (1 : Int32))]) rfl ?_
    show Steps p.tables e below (T5.setTop (mkF m 104 #[.val (.long q1), .second, .val (.int p2), .val (.int p3), .val (.int (p2 &&& (7 : Int32))), .val (.int (0 : Int32)), .val (.int (1 : Int32)), .val (.ref b4), .val (.long (6 : Int64)), .second, .val (.long q1), .second, .val (.int (1 : Int32))] [])) _
    refine XS.aload X5.here hx rfl (hb hby at_104) rfl rfl ?_
    show Steps p.tables e below (T5.setTop (mkF m 106 #[.val (.long q1), .second, .val (.int p2), .val (.int p3), .val (.int (p2 &&& (7 : Int32))), .val (.int (0 : Int32)), .val (.int (1 : Int32)), .val (.ref b4), .val (.long (6 : Int64)), .second, .val (.long q1), .second, .val (.int (1 : Int32))] [(.ref b4)])) _
    refine XS.lload X5.here hx rfl (hb hby at_106) rfl ?_
    show Steps p.tables e below (T5.setTop (mkF m 108 #[.val (.long q1), .second, .val (.int p2), .val (.int p3), .val (.int (p2 &&& (7 : Int32))), .val (.int (0 : Int32)), .val (.int (1 : Int32)), .val (.ref b4), .val (.long (6 : Int64)), .second, .val (.long q1), .second, .val (.int (1 : Int32))] [(.long q1), (.ref b4)])) _
    refine st6.trans ?_
    show Steps p.tables e below (T6.setTop (mkF m 111 #[.val (.long q1), .second, .val (.int p2), .val (.int p3), .val (.int (p2 &&& (7 : Int32))), .val (.int (0 : Int32)), .val (.int (1 : Int32)), .val (.ref b4), .val (.long (6 : Int64)), .second, .val (.long q1), .second, .val (.int (1 : Int32))] [(.int (1 : Int32))])) _
    refine XS.iload X6.here hx rfl (hb hby at_111) rfl ?_
    show Steps p.tables e below (T6.setTop (mkF m 113 #[.val (.long q1), .second, .val (.int p2), .val (.int p3), .val (.int (p2 &&& (7 : Int32))), .val (.int (0 : Int32)), .val (.int (1 : Int32)), .val (.ref b4), .val (.long (6 : Int64)), .second, .val (.long q1), .second, .val (.int (1 : Int32))] [(.int (1 : Int32)), (.int (1 : Int32))])) _
    refine XS.icmpNo X6.here hx rfl (hb hby at_113) rfl (teq (rfl : (1 : Int32) = (1 : Int32))).2 ?_
    show Steps p.tables e below (T6.setTop (mkF m 116 #[.val (.long q1), .second, .val (.int p2), .val (.int p3), .val (.int (p2 &&& (7 : Int32))), .val (.int (0 : Int32)), .val (.int (1 : Int32)), .val (.ref b4), .val (.long (6 : Int64)), .second, .val (.long q1), .second, .val (.int (1 : Int32))] [])) _
    refine XS.iconst X6.here hx rfl (hb hby at_116) ?_
    show Steps p.tables e below (T6.setTop (mkF m 117 #[.val (.long q1), .second, .val (.int p2), .val (.int p3), .val (.int (p2 &&& (7 : Int32))), .val (.int (0 : Int32)), .val (.int (1 : Int32)), .val (.ref b4), .val (.long (6 : Int64)), .second, .val (.long q1), .second, .val (.int (1 : Int32))] [(.int (1 : Int32))])) _
    refine XS.goto X6.here hx rfl (pc0 := 117) (pc' := 121) rfl (hb hby at_117) (by decide) (by decide) ?_
    show Steps p.tables e below (T6.setTop (mkF m 121 #[.val (.long q1), .second, .val (.int p2), .val (.int p3), .val (.int (p2 &&& (7 : Int32))), .val (.int (0 : Int32)), .val (.int (1 : Int32)), .val (.ref b4), .val (.long (6 : Int64)), .second, .val (.long q1), .second, .val (.int (1 : Int32))] [(.int (1 : Int32))])) _
    exact retN X6 hx (t := .boolean) Bd.returns (by simp) (hb hby at_121) hr
  · show Qz  h0 n0 _ T6.heap _
    rw [hh6]
    exact ⟨rfl, N6⟩
set_option maxRecDepth 65536 in
set_option maxHeartbeats 40000000 in
theorem rm0_tftftf (l : Launch) (Z : State) (a0 : Array Value) (hw : ∀ d ∈ tables_1, d.before a0 Z = true) (ws : List Jvm.Cond) (q1 : Int64) (p2 : Int32) (p3 : Int32) (h0 : Heap) (n0 : Nat) (Z0 : n0 ≤ h0.size) (hcap : ((((8 : Int32) / (4 : Int32)) * (3 : Int32)).toInt64) = (6 : Int64)) (hc9 : (p3 &&& (2 : Int32)) = (0 : Int32)) (hc22 : ¬ ((p3 &&& (1 : Int32)) = (0 : Int32))) (hc72 : ¬ ((1 : Int32) = (0 : Int32))) (hc94 : (0 : Int32) < (lcmpW q1 (6 : Int64))) :
    MetFree l x (head1 (Jvm.Cond.code x code maxLocals ret :: ws) room_1) (fun a U => a = #[(.long q1), (.int p2), (.int p3)] ∧ Z.Warmed39 U.vm ∧ U.heap = h0) (fun _ _ _ _ _ => True) (fun _ U o U' => ∃ v L, o = .returned v ∧ Qz  h0 n0 v U'.heap L ∧ FrameEnd U o U' L room_1.cells room_1.slots) := by
  refine MetFree.of_bodySF (plainFor_of_name pn_0) hisR ?_
  intro p e s m args below meth c s₁ Bd hml0 hP hK
  obtain ⟨rfl, hZ, hh⟩ := hP
  have hx := Bd.exec
  have hby := Bd.bytes
  have hml : c.maxLocals = 13 := hml0
  have hown : s.vm.findClass "com/example/wheredb/wheredb/storage/MemorySetHasRoomForPinLaw" = some m.cls := findClass_of_methodNamed Bd.named
  have hnm := (name_of_methodNamed Bd.named Bd.method).1
  have X0 : Stand p l e room_1 s m #[(.long q1), (.int p2), (.int p3)] below meth c s₁ [] 0 0 := Stand.of_body Bd
  have e0 : s₁.heap = h0 := by rw [← hh, Bd.state]; rfl
  have N0 := Fr.nil n0
  have pre0 : ∀ t, Steps p.tables e below (s₁.setTop (mkF m 0 #[.val (.long q1), .second, .val (.int p2), .val (.int p3), .unset, .unset, .unset, .unset, .unset, .unset, .unset, .unset, .unset] [])) t → Steps p.tables e below (s₁.setTop (entryFrame m #[(.long q1), (.int p2), (.int p3)] maxLocals)) t := fun t k => castTop (ef_0 m q1 p2 p3) k
  obtain ⟨T4, h4, X4, e4, E4, A4, D4, -, st4⟩ := newO X0 hx hZ hown (hw _ (List.mem_of_getElem? (i := 0) rfl)) (hw _ (List.mem_of_getElem? (i := 1) rfl)) (hw _ (List.mem_of_getElem? (i := 2) rfl)) e0 (g := (mkF m 32 #[.val (.long q1), .second, .val (.int p2), .val (.int p3), .val (.int (p2 &&& (7 : Int32))), .val (.int (0 : Int32)), .val (.int (1 : Int32)), .unset, .unset, .unset, .unset, .unset, .unset] [])) rfl (hb hby at_32) (by decide) (by decide)
  obtain ⟨b4, g4⟩ : ∃ z, z = h0.size := ⟨_, rfl⟩
  rw [← g4] at A4 D4 st4
  have F_chunks_b4 : Fld Z h4 b4 "com/example/wheredb/wheredb/storage/MemorySet" "chunks" "[Lcom/example/wheredb/wheredb/storage/MemorySet$Chunk;" .null := D4 (Or.inl (hw _ (List.mem_of_getElem? (i := 12) rfl))) (ty := (.array (.object "com/example/wheredb/wheredb/storage/MemorySet$Chunk"))) (by decide)
  have F_lastCells_b4 : Fld Z h4 b4 "com/example/wheredb/wheredb/storage/MemorySet" "lastCells" "[J" .null := D4 (Or.inl (hw _ (List.mem_of_getElem? (i := 15) rfl))) (ty := (.array .long)) (by decide)
  have F_slotHashes_b4 : Fld Z h4 b4 "com/example/wheredb/wheredb/storage/MemorySet" "slotHashes" "[I" .null := D4 (Or.inl (hw _ (List.mem_of_getElem? (i := 18) rfl))) (ty := (.array .int)) (by decide)
  have F_slotCells_b4 : Fld Z h4 b4 "com/example/wheredb/wheredb/storage/MemorySet" "slotCells" "[J" .null := D4 (Or.inl (hw _ (List.mem_of_getElem? (i := 20) rfl))) (ty := (.array .long)) (by decide)
  have F_slotShift_b4 : Fld Z h4 b4 "com/example/wheredb/wheredb/storage/MemorySet" "slotShift" "I" (.int (0 : Int32)) := D4 (Or.inl (hw _ (List.mem_of_getElem? (i := 27) rfl))) (ty := .int) (by decide)
  have E_b4 := A4
  have g_b4 : n0 ≤ b4 := Nat.le_trans Z0 (Nat.le_of_eq g4.symm)
  have sz_b4 : h0.size ≤ b4 := (Nat.le_trans (Keep.refl h0 []).1 (Nat.le_of_eq g4.symm))
  have K4 : Keep h0 h4 [] := (Keep.refl h0 []).ext E4
  obtain ⟨_, _, ⟨T5, L5, k5, n5⟩, -, X5, ⟨Lc5, hQ5, l5, y5, z5⟩, st5⟩ := X4.specialBack hx (y := (⟨"com/example/wheredb/wheredb/storage/MemorySet", "<init>", "()V"⟩ : MethodName)) rfl hown (mvT hZ (hw _ (List.mem_of_getElem? (i := 3) rfl))) (mvT hZ (hw _ (List.mem_of_getElem? (i := 4) rfl))) (mvT hZ (hw _ (List.mem_of_getElem? (i := 5) rfl))) (by decide) (backOf (W := 1) (rm1 l Z a0 hw [] b4 .null .null .null .null (.int (0 : Int32)) h4 n0 (Nat.le_trans Z0 E4.1) E_b4 F_chunks_b4 g_b4 F_lastCells_b4 F_slotHashes_b4 F_slotCells_b4 F_slotShift_b4) hZ (hw _ (List.mem_of_getElem? (i := 5) rfl)) (hw _ (List.mem_of_getElem? (i := 2) rfl)) (by decide) (by decide)) (g := (mkF m 36 #[.val (.long q1), .second, .val (.int p2), .val (.int p3), .val (.int (p2 &&& (7 : Int32))), .val (.int (0 : Int32)), .val (.int (1 : Int32)), .unset, .unset, .unset, .unset, .unset, .unset] [(.ref b4), (.ref b4)])) rfl (by rw [hml]; rfl) (Steps.refl _) (a := b4) (argsL := []) (rest := [(.ref b4)]) (lenOf pd_0_0 rfl) rfl (by show 2 * 0 + _ ≤ _; exact Nat.le_of_eq rfl) (hb hby at_36) (fun _ _ => ⟨rfl, e4, (by decide : 1 + 4 ≤ _), (by decide : 7 + 24 ≤ _)⟩)
  dsimp only [Pt.U, Pt.locs, Pt.cells, Pt.slots] at X5 l5 y5 z5 st5 hQ5
  subst l5 y5 z5
  obtain ⟨rfl, N5q, Kc5, Ec5, bh5, bc5, kb5, rs5, Fh5, Fs5, Ft5, Vb5⟩ := hQ5
  have N5 := Fr.app N0 N5q
  have K5 : Keep h0 T5.heap [] := K4.trans Kc5 (allS (Or.inr sz_b4) all0)
  obtain ⟨cl_c6, Ar_c6, -, S_c6, N_c6, -, -⟩ := Vb5
  obtain ⟨cq6, kq6, q6a, q6b, q6c⟩ := isOf hZ rfl Ec5
  obtain ⟨_, _, ⟨T6, L6, k6, n6⟩, -, X6, ⟨Lc6, hQ6, l6, y6, z6⟩, st6⟩ := X5.virtualBack hx (y := (⟨"com/example/wheredb/wheredb/storage/MemorySet", "hasRoomFor", "(J)Z"⟩ : MethodName)) (z := (⟨"com/example/wheredb/wheredb/storage/MemorySet", "hasRoomFor", "(J)Z"⟩ : MethodName)) hown (mvT hZ (hw _ (List.mem_of_getElem? (i := 29) rfl))) (mvT hZ (hw _ (List.mem_of_getElem? (i := 30) rfl))) (notFace_of_selects (args := #[]) (mvT hZ (hw _ (List.mem_of_getElem? (i := 32) rfl)))) (mvT hZ (hw _ (List.mem_of_getElem? (i := 32) rfl))) (mvT hZ (hw _ (List.mem_of_getElem? (i := 31) rfl))) (by decide) (backOf (W := 0) (rm4_t l Z a0 hw [] b4 q1 bh5 cl_c6 (8 : Int32) T5.heap n0 (Nat.le_trans (Nat.le_trans Z0 E4.1) Kc5.1) Fh5 Ar_c6 S_c6 N_c6 (by decide) (by rw [hcap]; exact hc94)) hZ (hw _ (List.mem_of_getElem? (i := 33) rfl)) (hw _ (List.mem_of_getElem? (i := 2) rfl)) (by decide) (by decide)) q6a q6c (g := (mkF m 108 #[.val (.long q1), .second, .val (.int p2), .val (.int p3), .val (.int (p2 &&& (7 : Int32))), .val (.int (0 : Int32)), .val (.int (1 : Int32)), .val (.ref b4), .val (.long (6 : Int64)), .second, .val (.long q1), .second, .val (.int (0 : Int32))] [(.long q1), (.ref b4)])) rfl (by rw [hml]; rfl) (Steps.refl _) (argsL := [(.long q1)]) (rest := []) (lenOf pd_0_2 rfl) rfl (by show 2 * 0 + _ ≤ _; exact Nat.le_of_eq rfl) (hb hby at_108) (fun _ _ => ⟨rfl, rfl, (by decide : 5 + 0 ≤ _), (by decide : 31 + 0 ≤ _)⟩)
  dsimp only [Pt.U, Pt.locs, Pt.cells, Pt.slots] at X6 l6 y6 z6 st6 hQ6
  subst l6 y6 z6
  obtain ⟨rfl, N6q, hh6⟩ := hQ6
  have N6 := Fr.app N5 N6q
  obtain ⟨fs, hr, hrun, hended, hW, hsame⟩ := X6.leave (v := some (.int (1 : Int32))) (fun h => by rw [Bd.returns] at h; cases h)
  refine ⟨_, _, pre0 _ ?_, hrun, hended, _, _, rfl, ?_, ⟨_, rfl⟩, hW, hsame.mono (by decide) (by decide)⟩
  · show Steps p.tables e below (s₁.setTop (mkF m 0 #[.val (.long q1), .second, .val (.int p2), .val (.int p3), .unset, .unset, .unset, .unset, .unset, .unset, .unset, .unset, .unset] [])) _
    refine XS.iloadN X0.here hx rfl (hb hby at_0) rfl ?_
    show Steps p.tables e below (s₁.setTop (mkF m 1 #[.val (.long q1), .second, .val (.int p2), .val (.int p3), .unset, .unset, .unset, .unset, .unset, .unset, .unset, .unset, .unset] [(.int p2)])) _
    refine XS.bipush X0.here hx rfl (hb hby at_1) ?_
    show Steps p.tables e below (s₁.setTop (mkF m 3 #[.val (.long q1), .second, .val (.int p2), .val (.int p3), .unset, .unset, .unset, .unset, .unset, .unset, .unset, .unset, .unset] [(.int (7 : Int32)), (.int p2)])) _
    refine XS.iand X0.here hx rfl (hb hby at_3) rfl ?_
    show Steps p.tables e below (s₁.setTop (mkF m 4 #[.val (.long q1), .second, .val (.int p2), .val (.int p3), .unset, .unset, .unset, .unset, .unset, .unset, .unset, .unset, .unset] [(.int (p2 &&& (7 : Int32)))])) _
    refine XS.istore X0.here hx rfl (hb hby at_4) rfl (l' := #[.val (.long q1), .second, .val (.int p2), .val (.int p3), .val (.int (p2 &&& (7 : Int32))), .unset, .unset, .unset, .unset, .unset, .unset, .unset, .unset]) rfl ?_
    show Steps p.tables e below (s₁.setTop (mkF m 6 #[.val (.long q1), .second, .val (.int p2), .val (.int p3), .val (.int (p2 &&& (7 : Int32))), .unset, .unset, .unset, .unset, .unset, .unset, .unset, .unset] [])) _
    refine XS.iloadN X0.here hx rfl (hb hby at_6) rfl ?_
    show Steps p.tables e below (s₁.setTop (mkF m 7 #[.val (.long q1), .second, .val (.int p2), .val (.int p3), .val (.int (p2 &&& (7 : Int32))), .unset, .unset, .unset, .unset, .unset, .unset, .unset, .unset] [(.int p3)])) _
    refine XS.iconst X0.here hx rfl (hb hby at_7) ?_
    show Steps p.tables e below (s₁.setTop (mkF m 8 #[.val (.long q1), .second, .val (.int p2), .val (.int p3), .val (.int (p2 &&& (7 : Int32))), .unset, .unset, .unset, .unset, .unset, .unset, .unset, .unset] [(.int (2 : Int32)), (.int p3)])) _
    refine XS.iand X0.here hx rfl (hb hby at_8) rfl ?_
    show Steps p.tables e below (s₁.setTop (mkF m 9 #[.val (.long q1), .second, .val (.int p2), .val (.int p3), .val (.int (p2 &&& (7 : Int32))), .unset, .unset, .unset, .unset, .unset, .unset, .unset, .unset] [(.int (p3 &&& (2 : Int32)))])) _
    refine XS.ifYes X0.here hx rfl (pc0 := 9) (pc' := 16) rfl (hb hby at_9) rfl ((if0 _ _).trans (teq hc9).1) (by decide) (by decide) ?_
    show Steps p.tables e below (s₁.setTop (mkF m 16 #[.val (.long q1), .second, .val (.int p2), .val (.int p3), .val (.int (p2 &&& (7 : Int32))), .unset, .unset, .unset, .unset, .unset, .unset, .unset, .unset] [])) _
    refine XS.iconst X0.here hx rfl (hb hby at_16) ?_
    show Steps p.tables e below (s₁.setTop (mkF m 17 #[.val (.long q1), .second, .val (.int p2), .val (.int p3), .val (.int (p2 &&& (7 : Int32))), .unset, .unset, .unset, .unset, .unset, .unset, .unset, .unset] [(.int (0 : Int32))])) _
    refine XS.istore X0.here hx rfl (hb hby at_17) rfl (l' := #[.val (.long q1), .second, .val (.int p2), .val (.int p3), .val (.int (p2 &&& (7 : Int32))), .val (.int (0 : Int32)), .unset, .unset, .unset, .unset, .unset, .unset, .unset]) rfl ?_
    show Steps p.tables e below (s₁.setTop (mkF m 19 #[.val (.long q1), .second, .val (.int p2), .val (.int p3), .val (.int (p2 &&& (7 : Int32))), .val (.int (0 : Int32)), .unset, .unset, .unset, .unset, .unset, .unset, .unset] [])) _
    refine XS.iloadN X0.here hx rfl (hb hby at_19) rfl ?_
    show Steps p.tables e below (s₁.setTop (mkF m 20 #[.val (.long q1), .second, .val (.int p2), .val (.int p3), .val (.int (p2 &&& (7 : Int32))), .val (.int (0 : Int32)), .unset, .unset, .unset, .unset, .unset, .unset, .unset] [(.int p3)])) _
    refine XS.iconst X0.here hx rfl (hb hby at_20) ?_
    show Steps p.tables e below (s₁.setTop (mkF m 21 #[.val (.long q1), .second, .val (.int p2), .val (.int p3), .val (.int (p2 &&& (7 : Int32))), .val (.int (0 : Int32)), .unset, .unset, .unset, .unset, .unset, .unset, .unset] [(.int (1 : Int32)), (.int p3)])) _
    refine XS.iand X0.here hx rfl (hb hby at_21) rfl ?_
    show Steps p.tables e below (s₁.setTop (mkF m 22 #[.val (.long q1), .second, .val (.int p2), .val (.int p3), .val (.int (p2 &&& (7 : Int32))), .val (.int (0 : Int32)), .unset, .unset, .unset, .unset, .unset, .unset, .unset] [(.int (p3 &&& (1 : Int32)))])) _
    refine XS.ifNo X0.here hx rfl (hb hby at_22) rfl ((if0 _ _).trans (feq hc22).1) ?_
    show Steps p.tables e below (s₁.setTop (mkF m 25 #[.val (.long q1), .second, .val (.int p2), .val (.int p3), .val (.int (p2 &&& (7 : Int32))), .val (.int (0 : Int32)), .unset, .unset, .unset, .unset, .unset, .unset, .unset] [])) _
    refine XS.iconst X0.here hx rfl (hb hby at_25) ?_
    show Steps p.tables e below (s₁.setTop (mkF m 26 #[.val (.long q1), .second, .val (.int p2), .val (.int p3), .val (.int (p2 &&& (7 : Int32))), .val (.int (0 : Int32)), .unset, .unset, .unset, .unset, .unset, .unset, .unset] [(.int (1 : Int32))])) _
    refine XS.goto X0.here hx rfl (pc0 := 26) (pc' := 30) rfl (hb hby at_26) (by decide) (by decide) ?_
    show Steps p.tables e below (s₁.setTop (mkF m 30 #[.val (.long q1), .second, .val (.int p2), .val (.int p3), .val (.int (p2 &&& (7 : Int32))), .val (.int (0 : Int32)), .unset, .unset, .unset, .unset, .unset, .unset, .unset] [(.int (1 : Int32))])) _
    refine XS.istore X0.here hx rfl (hb hby at_30) rfl (l' := #[.val (.long q1), .second, .val (.int p2), .val (.int p3), .val (.int (p2 &&& (7 : Int32))), .val (.int (0 : Int32)), .val (.int (1 : Int32)), .unset, .unset, .unset, .unset, .unset, .unset]) rfl ?_
    show Steps p.tables e below (s₁.setTop (mkF m 32 #[.val (.long q1), .second, .val (.int p2), .val (.int p3), .val (.int (p2 &&& (7 : Int32))), .val (.int (0 : Int32)), .val (.int (1 : Int32)), .unset, .unset, .unset, .unset, .unset, .unset] [])) _
    refine st4 _ ?_
    show Steps p.tables e below (T4.setTop (mkF m 35 #[.val (.long q1), .second, .val (.int p2), .val (.int p3), .val (.int (p2 &&& (7 : Int32))), .val (.int (0 : Int32)), .val (.int (1 : Int32)), .unset, .unset, .unset, .unset, .unset, .unset] [(.ref b4)])) _
    refine XS.dup X4.here hx rfl (hb hby at_35) rfl rfl ?_
    show Steps p.tables e below (T4.setTop (mkF m 36 #[.val (.long q1), .second, .val (.int p2), .val (.int p3), .val (.int (p2 &&& (7 : Int32))), .val (.int (0 : Int32)), .val (.int (1 : Int32)), .unset, .unset, .unset, .unset, .unset, .unset] [(.ref b4), (.ref b4)])) _
    refine st5.trans ?_
    show Steps p.tables e below (T5.setTop (mkF m 39 #[.val (.long q1), .second, .val (.int p2), .val (.int p3), .val (.int (p2 &&& (7 : Int32))), .val (.int (0 : Int32)), .val (.int (1 : Int32)), .unset, .unset, .unset, .unset, .unset, .unset] [(.ref b4)])) _
    refine XS.astore X5.here hx rfl (hb hby at_39) rfl rfl (l' := #[.val (.long q1), .second, .val (.int p2), .val (.int p3), .val (.int (p2 &&& (7 : Int32))), .val (.int (0 : Int32)), .val (.int (1 : Int32)), .val (.ref b4), .unset, .unset, .unset, .unset, .unset]) rfl ?_
    show Steps p.tables e below (T5.setTop (mkF m 41 #[.val (.long q1), .second, .val (.int p2), .val (.int p3), .val (.int (p2 &&& (7 : Int32))), .val (.int (0 : Int32)), .val (.int (1 : Int32)), .val (.ref b4), .unset, .unset, .unset, .unset, .unset] [])) _
    refine X5.ldc2Long hx hown (mvT hZ (hw _ (List.mem_of_getElem? (i := 28) rfl))) (g := (mkF m 41 #[.val (.long q1), .second, .val (.int p2), .val (.int p3), .val (.int (p2 &&& (7 : Int32))), .val (.int (0 : Int32)), .val (.int (1 : Int32)), .val (.ref b4), .unset, .unset, .unset, .unset, .unset] [])) rfl (hb hby at_41) _ ?_
    show Steps p.tables e below (T5.setTop (mkF m 44 #[.val (.long q1), .second, .val (.int p2), .val (.int p3), .val (.int (p2 &&& (7 : Int32))), .val (.int (0 : Int32)), .val (.int (1 : Int32)), .val (.ref b4), .unset, .unset, .unset, .unset, .unset] [(.long (6 : Int64))])) _
    refine XS.lstore X5.here hx rfl (hb hby at_44) rfl (l' := #[.val (.long q1), .second, .val (.int p2), .val (.int p3), .val (.int (p2 &&& (7 : Int32))), .val (.int (0 : Int32)), .val (.int (1 : Int32)), .val (.ref b4), .val (.long (6 : Int64)), .second, .unset, .unset, .unset]) rfl ?_
    show Steps p.tables e below (T5.setTop (mkF m 46 #[.val (.long q1), .second, .val (.int p2), .val (.int p3), .val (.int (p2 &&& (7 : Int32))), .val (.int (0 : Int32)), .val (.int (1 : Int32)), .val (.ref b4), .val (.long (6 : Int64)), .second, .unset, .unset, .unset] [])) _
    refine XS.iload X5.here hx rfl (hb hby at_46) rfl ?_
    show Steps p.tables e below (T5.setTop (mkF m 48 #[.val (.long q1), .second, .val (.int p2), .val (.int p3), .val (.int (p2 &&& (7 : Int32))), .val (.int (0 : Int32)), .val (.int (1 : Int32)), .val (.ref b4), .val (.long (6 : Int64)), .second, .unset, .unset, .unset] [(.int (0 : Int32))])) _
    refine XS.ifYes X5.here hx rfl (pc0 := 48) (pc' := 70) rfl (hb hby at_48) rfl ((if0 _ _).trans (teq (rfl : (0 : Int32) = (0 : Int32))).1) (by decide) (by decide) ?_
    show Steps p.tables e below (T5.setTop (mkF m 70 #[.val (.long q1), .second, .val (.int p2), .val (.int p3), .val (.int (p2 &&& (7 : Int32))), .val (.int (0 : Int32)), .val (.int (1 : Int32)), .val (.ref b4), .val (.long (6 : Int64)), .second, .unset, .unset, .unset] [])) _
    refine XS.iload X5.here hx rfl (hb hby at_70) rfl ?_
    show Steps p.tables e below (T5.setTop (mkF m 72 #[.val (.long q1), .second, .val (.int p2), .val (.int p3), .val (.int (p2 &&& (7 : Int32))), .val (.int (0 : Int32)), .val (.int (1 : Int32)), .val (.ref b4), .val (.long (6 : Int64)), .second, .unset, .unset, .unset] [(.int (1 : Int32))])) _
    refine XS.ifNo X5.here hx rfl (hb hby at_72) rfl ((if0 _ _).trans (feq hc72).1) ?_
    show Steps p.tables e below (T5.setTop (mkF m 75 #[.val (.long q1), .second, .val (.int p2), .val (.int p3), .val (.int (p2 &&& (7 : Int32))), .val (.int (0 : Int32)), .val (.int (1 : Int32)), .val (.ref b4), .val (.long (6 : Int64)), .second, .unset, .unset, .unset] [])) _
    refine XS.lloadN X5.here hx rfl (hb hby at_75) rfl ?_
    show Steps p.tables e below (T5.setTop (mkF m 76 #[.val (.long q1), .second, .val (.int p2), .val (.int p3), .val (.int (p2 &&& (7 : Int32))), .val (.int (0 : Int32)), .val (.int (1 : Int32)), .val (.ref b4), .val (.long (6 : Int64)), .second, .unset, .unset, .unset] [(.long q1)])) _
    refine XS.goto X5.here hx rfl (pc0 := 76) (pc' := 87) rfl (hb hby at_76) (by decide) (by decide) ?_
    show Steps p.tables e below (T5.setTop (mkF m 87 #[.val (.long q1), .second, .val (.int p2), .val (.int p3), .val (.int (p2 &&& (7 : Int32))), .val (.int (0 : Int32)), .val (.int (1 : Int32)), .val (.ref b4), .val (.long (6 : Int64)), .second, .unset, .unset, .unset] [(.long q1)])) _
    refine XS.lstore X5.here hx rfl (hb hby at_87) rfl (l' := #[.val (.long q1), .second, .val (.int p2), .val (.int p3), .val (.int (p2 &&& (7 : Int32))), .val (.int (0 : Int32)), .val (.int (1 : Int32)), .val (.ref b4), .val (.long (6 : Int64)), .second, .val (.long q1), .second, .unset]) rfl ?_
    show Steps p.tables e below (T5.setTop (mkF m 89 #[.val (.long q1), .second, .val (.int p2), .val (.int p3), .val (.int (p2 &&& (7 : Int32))), .val (.int (0 : Int32)), .val (.int (1 : Int32)), .val (.ref b4), .val (.long (6 : Int64)), .second, .val (.long q1), .second, .unset] [])) _
    refine XS.lload X5.here hx rfl (hb hby at_89) rfl ?_
    show Steps p.tables e below (T5.setTop (mkF m 91 #[.val (.long q1), .second, .val (.int p2), .val (.int p3), .val (.int (p2 &&& (7 : Int32))), .val (.int (0 : Int32)), .val (.int (1 : Int32)), .val (.ref b4), .val (.long (6 : Int64)), .second, .val (.long q1), .second, .unset] [(.long q1)])) _
    refine XS.lload X5.here hx rfl (hb hby at_91) rfl ?_
    show Steps p.tables e below (T5.setTop (mkF m 93 #[.val (.long q1), .second, .val (.int p2), .val (.int p3), .val (.int (p2 &&& (7 : Int32))), .val (.int (0 : Int32)), .val (.int (1 : Int32)), .val (.ref b4), .val (.long (6 : Int64)), .second, .val (.long q1), .second, .unset] [(.long (6 : Int64)), (.long q1)])) _
    refine XS.lcmp X5.here hx rfl (hb hby at_93) rfl ?_
    show Steps p.tables e below (T5.setTop (mkF m 94 #[.val (.long q1), .second, .val (.int p2), .val (.int p3), .val (.int (p2 &&& (7 : Int32))), .val (.int (0 : Int32)), .val (.int (1 : Int32)), .val (.ref b4), .val (.long (6 : Int64)), .second, .val (.long q1), .second, .unset] [(.int (lcmpW q1 (6 : Int64)))])) _
    refine XS.ifYes X5.here hx rfl (pc0 := 94) (pc' := 101) rfl (hb hby at_94) rfl ((if0 _ _).trans (tlt hc94).2.2.1) (by decide) (by decide) ?_
    show Steps p.tables e below (T5.setTop (mkF m 101 #[.val (.long q1), .second, .val (.int p2), .val (.int p3), .val (.int (p2 &&& (7 : Int32))), .val (.int (0 : Int32)), .val (.int (1 : Int32)), .val (.ref b4), .val (.long (6 : Int64)), .second, .val (.long q1), .second, .unset] [])) _
    refine XS.iconst X5.here hx rfl (hb hby at_101) ?_
    show Steps p.tables e below (T5.setTop (mkF m 102 #[.val (.long q1), .second, .val (.int p2), .val (.int p3), .val (.int (p2 &&& (7 : Int32))), .val (.int (0 : Int32)), .val (.int (1 : Int32)), .val (.ref b4), .val (.long (6 : Int64)), .second, .val (.long q1), .second, .unset] [(.int (0 : Int32))])) _
    refine XS.istore X5.here hx rfl (hb hby at_102) rfl (l' := #[.val (.long q1), .second, .val (.int p2), .val (.int p3), .val (.int (p2 &&& (7 : Int32))), .val (.int (0 : Int32)), .val (.int (1 : Int32)), .val (.ref b4), .val (.long (6 : Int64)), .second, .val (.long q1), .second, .val (.int (0 : Int32))]) rfl ?_
    show Steps p.tables e below (T5.setTop (mkF m 104 #[.val (.long q1), .second, .val (.int p2), .val (.int p3), .val (.int (p2 &&& (7 : Int32))), .val (.int (0 : Int32)), .val (.int (1 : Int32)), .val (.ref b4), .val (.long (6 : Int64)), .second, .val (.long q1), .second, .val (.int (0 : Int32))] [])) _
    refine XS.aload X5.here hx rfl (hb hby at_104) rfl rfl ?_
    show Steps p.tables e below (T5.setTop (mkF m 106 #[.val (.long q1), .second, .val (.int p2), .val (.int p3), .val (.int (p2 &&& (7 : Int32))), .val (.int (0 : Int32)), .val (.int (1 : Int32)), .val (.ref b4), .val (.long (6 : Int64)), .second, .val (.long q1), .second, .val (.int (0 : Int32))] [(.ref b4)])) _
    refine XS.lload X5.here hx rfl (hb hby at_106) rfl ?_
    show Steps p.tables e below (T5.setTop (mkF m 108 #[.val (.long q1), .second, .val (.int p2), .val (.int p3), .val (.int (p2 &&& (7 : Int32))), .val (.int (0 : Int32)), .val (.int (1 : Int32)), .val (.ref b4), .val (.long (6 : Int64)), .second, .val (.long q1), .second, .val (.int (0 : Int32))] [(.long q1), (.ref b4)])) _
    refine st6.trans ?_
    show Steps p.tables e below (T6.setTop (mkF m 111 #[.val (.long q1), .second, .val (.int p2), .val (.int p3), .val (.int (p2 &&& (7 : Int32))), .val (.int (0 : Int32)), .val (.int (1 : Int32)), .val (.ref b4), .val (.long (6 : Int64)), .second, .val (.long q1), .second, .val (.int (0 : Int32))] [(.int (0 : Int32))])) _
    refine XS.iload X6.here hx rfl (hb hby at_111) rfl ?_
    show Steps p.tables e below (T6.setTop (mkF m 113 #[.val (.long q1), .second, .val (.int p2), .val (.int p3), .val (.int (p2 &&& (7 : Int32))), .val (.int (0 : Int32)), .val (.int (1 : Int32)), .val (.ref b4), .val (.long (6 : Int64)), .second, .val (.long q1), .second, .val (.int (0 : Int32))] [(.int (0 : Int32)), (.int (0 : Int32))])) _
    refine XS.icmpNo X6.here hx rfl (hb hby at_113) rfl (teq (rfl : (0 : Int32) = (0 : Int32))).2 ?_
    show Steps p.tables e below (T6.setTop (mkF m 116 #[.val (.long q1), .second, .val (.int p2), .val (.int p3), .val (.int (p2 &&& (7 : Int32))), .val (.int (0 : Int32)), .val (.int (1 : Int32)), .val (.ref b4), .val (.long (6 : Int64)), .second, .val (.long q1), .second, .val (.int (0 : Int32))] [])) _
    refine XS.iconst X6.here hx rfl (hb hby at_116) ?_
    show Steps p.tables e below (T6.setTop (mkF m 117 #[.val (.long q1), .second, .val (.int p2), .val (.int p3), .val (.int (p2 &&& (7 : Int32))), .val (.int (0 : Int32)), .val (.int (1 : Int32)), .val (.ref b4), .val (.long (6 : Int64)), .second, .val (.long q1), .second, .val (.int (0 : Int32))] [(.int (1 : Int32))])) _
    refine XS.goto X6.here hx rfl (pc0 := 117) (pc' := 121) rfl (hb hby at_117) (by decide) (by decide) ?_
    show Steps p.tables e below (T6.setTop (mkF m 121 #[.val (.long q1), .second, .val (.int p2), .val (.int p3), .val (.int (p2 &&& (7 : Int32))), .val (.int (0 : Int32)), .val (.int (1 : Int32)), .val (.ref b4), .val (.long (6 : Int64)), .second, .val (.long q1), .second, .val (.int (0 : Int32))] [(.int (1 : Int32))])) _
    exact retN X6 hx (t := .boolean) Bd.returns (by simp) (hb hby at_121) hr
  · show Qz  h0 n0 _ T6.heap _
    rw [hh6]
    exact ⟨rfl, N6⟩
set_option maxRecDepth 65536 in
set_option maxHeartbeats 40000000 in
theorem rm0_ttttff (l : Launch) (Z : State) (a0 : Array Value) (hw : ∀ d ∈ tables_1, d.before a0 Z = true) (ws : List Jvm.Cond) (q1 : Int64) (p2 : Int32) (p3 : Int32) (h0 : Heap) (n0 : Nat) (Z0 : n0 ≤ h0.size) (hcap : ((((8 : Int32) / (4 : Int32)) * (3 : Int32)).toInt64) = (6 : Int64)) (hc9 : (p3 &&& (2 : Int32)) = (0 : Int32)) (hc22 : (p3 &&& (1 : Int32)) = (0 : Int32)) (hnz85 : ¬ ((4 : Int64) = (0 : Int64))) (hc94 : ¬ ((0 : Int32) < (lcmpW ((6 : Int64) + (q1 % (4 : Int64))) (6 : Int64)))) :
    MetFree l x (head1 (Jvm.Cond.code x code maxLocals ret :: ws) room_1) (fun a U => a = #[(.long q1), (.int p2), (.int p3)] ∧ Z.Warmed39 U.vm ∧ U.heap = h0) (fun _ _ _ _ _ => True) (fun _ U o U' => ∃ v L, o = .returned v ∧ Qz  h0 n0 v U'.heap L ∧ FrameEnd U o U' L room_1.cells room_1.slots) := by
  refine MetFree.of_bodySF (plainFor_of_name pn_0) hisR ?_
  intro p e s m args below meth c s₁ Bd hml0 hP hK
  obtain ⟨rfl, hZ, hh⟩ := hP
  have hx := Bd.exec
  have hby := Bd.bytes
  have hml : c.maxLocals = 13 := hml0
  have hown : s.vm.findClass "com/example/wheredb/wheredb/storage/MemorySetHasRoomForPinLaw" = some m.cls := findClass_of_methodNamed Bd.named
  have hnm := (name_of_methodNamed Bd.named Bd.method).1
  have X0 : Stand p l e room_1 s m #[(.long q1), (.int p2), (.int p3)] below meth c s₁ [] 0 0 := Stand.of_body Bd
  have e0 : s₁.heap = h0 := by rw [← hh, Bd.state]; rfl
  have N0 := Fr.nil n0
  have pre0 : ∀ t, Steps p.tables e below (s₁.setTop (mkF m 0 #[.val (.long q1), .second, .val (.int p2), .val (.int p3), .unset, .unset, .unset, .unset, .unset, .unset, .unset, .unset, .unset] [])) t → Steps p.tables e below (s₁.setTop (entryFrame m #[(.long q1), (.int p2), (.int p3)] maxLocals)) t := fun t k => castTop (ef_0 m q1 p2 p3) k
  obtain ⟨T4, h4, X4, e4, E4, A4, D4, -, st4⟩ := newO X0 hx hZ hown (hw _ (List.mem_of_getElem? (i := 0) rfl)) (hw _ (List.mem_of_getElem? (i := 1) rfl)) (hw _ (List.mem_of_getElem? (i := 2) rfl)) e0 (g := (mkF m 32 #[.val (.long q1), .second, .val (.int p2), .val (.int p3), .val (.int (p2 &&& (7 : Int32))), .val (.int (0 : Int32)), .val (.int (0 : Int32)), .unset, .unset, .unset, .unset, .unset, .unset] [])) rfl (hb hby at_32) (by decide) (by decide)
  obtain ⟨b4, g4⟩ : ∃ z, z = h0.size := ⟨_, rfl⟩
  rw [← g4] at A4 D4 st4
  have F_chunks_b4 : Fld Z h4 b4 "com/example/wheredb/wheredb/storage/MemorySet" "chunks" "[Lcom/example/wheredb/wheredb/storage/MemorySet$Chunk;" .null := D4 (Or.inl (hw _ (List.mem_of_getElem? (i := 12) rfl))) (ty := (.array (.object "com/example/wheredb/wheredb/storage/MemorySet$Chunk"))) (by decide)
  have F_lastCells_b4 : Fld Z h4 b4 "com/example/wheredb/wheredb/storage/MemorySet" "lastCells" "[J" .null := D4 (Or.inl (hw _ (List.mem_of_getElem? (i := 15) rfl))) (ty := (.array .long)) (by decide)
  have F_slotHashes_b4 : Fld Z h4 b4 "com/example/wheredb/wheredb/storage/MemorySet" "slotHashes" "[I" .null := D4 (Or.inl (hw _ (List.mem_of_getElem? (i := 18) rfl))) (ty := (.array .int)) (by decide)
  have F_slotCells_b4 : Fld Z h4 b4 "com/example/wheredb/wheredb/storage/MemorySet" "slotCells" "[J" .null := D4 (Or.inl (hw _ (List.mem_of_getElem? (i := 20) rfl))) (ty := (.array .long)) (by decide)
  have F_slotShift_b4 : Fld Z h4 b4 "com/example/wheredb/wheredb/storage/MemorySet" "slotShift" "I" (.int (0 : Int32)) := D4 (Or.inl (hw _ (List.mem_of_getElem? (i := 27) rfl))) (ty := .int) (by decide)
  have E_b4 := A4
  have g_b4 : n0 ≤ b4 := Nat.le_trans Z0 (Nat.le_of_eq g4.symm)
  have sz_b4 : h0.size ≤ b4 := (Nat.le_trans (Keep.refl h0 []).1 (Nat.le_of_eq g4.symm))
  have K4 : Keep h0 h4 [] := (Keep.refl h0 []).ext E4
  obtain ⟨_, _, ⟨T5, L5, k5, n5⟩, -, X5, ⟨Lc5, hQ5, l5, y5, z5⟩, st5⟩ := X4.specialBack hx (y := (⟨"com/example/wheredb/wheredb/storage/MemorySet", "<init>", "()V"⟩ : MethodName)) rfl hown (mvT hZ (hw _ (List.mem_of_getElem? (i := 3) rfl))) (mvT hZ (hw _ (List.mem_of_getElem? (i := 4) rfl))) (mvT hZ (hw _ (List.mem_of_getElem? (i := 5) rfl))) (by decide) (backOf (W := 1) (rm1 l Z a0 hw [] b4 .null .null .null .null (.int (0 : Int32)) h4 n0 (Nat.le_trans Z0 E4.1) E_b4 F_chunks_b4 g_b4 F_lastCells_b4 F_slotHashes_b4 F_slotCells_b4 F_slotShift_b4) hZ (hw _ (List.mem_of_getElem? (i := 5) rfl)) (hw _ (List.mem_of_getElem? (i := 2) rfl)) (by decide) (by decide)) (g := (mkF m 36 #[.val (.long q1), .second, .val (.int p2), .val (.int p3), .val (.int (p2 &&& (7 : Int32))), .val (.int (0 : Int32)), .val (.int (0 : Int32)), .unset, .unset, .unset, .unset, .unset, .unset] [(.ref b4), (.ref b4)])) rfl (by rw [hml]; rfl) (Steps.refl _) (a := b4) (argsL := []) (rest := [(.ref b4)]) (lenOf pd_0_0 rfl) rfl (by show 2 * 0 + _ ≤ _; exact Nat.le_of_eq rfl) (hb hby at_36) (fun _ _ => ⟨rfl, e4, (by decide : 1 + 4 ≤ _), (by decide : 7 + 24 ≤ _)⟩)
  dsimp only [Pt.U, Pt.locs, Pt.cells, Pt.slots] at X5 l5 y5 z5 st5 hQ5
  subst l5 y5 z5
  obtain ⟨rfl, N5q, Kc5, Ec5, bh5, bc5, kb5, rs5, Fh5, Fs5, Ft5, Vb5⟩ := hQ5
  have N5 := Fr.app N0 N5q
  have K5 : Keep h0 T5.heap [] := K4.trans Kc5 (allS (Or.inr sz_b4) all0)
  obtain ⟨cl_c6, Ar_c6, -, S_c6, N_c6, -, -⟩ := Vb5
  obtain ⟨cq6, kq6, q6a, q6b, q6c⟩ := isOf hZ rfl Ec5
  obtain ⟨_, _, ⟨T6, L6, k6, n6⟩, -, X6, ⟨Lc6, hQ6, l6, y6, z6⟩, st6⟩ := X5.virtualBack hx (y := (⟨"com/example/wheredb/wheredb/storage/MemorySet", "hasRoomFor", "(J)Z"⟩ : MethodName)) (z := (⟨"com/example/wheredb/wheredb/storage/MemorySet", "hasRoomFor", "(J)Z"⟩ : MethodName)) hown (mvT hZ (hw _ (List.mem_of_getElem? (i := 29) rfl))) (mvT hZ (hw _ (List.mem_of_getElem? (i := 30) rfl))) (notFace_of_selects (args := #[]) (mvT hZ (hw _ (List.mem_of_getElem? (i := 32) rfl)))) (mvT hZ (hw _ (List.mem_of_getElem? (i := 32) rfl))) (mvT hZ (hw _ (List.mem_of_getElem? (i := 31) rfl))) (by decide) (backOf (W := 0) (rm4_f l Z a0 hw [] b4 ((6 : Int64) + (q1 % (4 : Int64))) bh5 cl_c6 (8 : Int32) T5.heap n0 (Nat.le_trans (Nat.le_trans Z0 E4.1) Kc5.1) Fh5 Ar_c6 S_c6 N_c6 (by decide) (by rw [hcap]; exact hc94)) hZ (hw _ (List.mem_of_getElem? (i := 33) rfl)) (hw _ (List.mem_of_getElem? (i := 2) rfl)) (by decide) (by decide)) q6a q6c (g := (mkF m 108 #[.val (.long q1), .second, .val (.int p2), .val (.int p3), .val (.int (p2 &&& (7 : Int32))), .val (.int (0 : Int32)), .val (.int (0 : Int32)), .val (.ref b4), .val (.long (6 : Int64)), .second, .val (.long ((6 : Int64) + (q1 % (4 : Int64)))), .second, .val (.int (1 : Int32))] [(.long ((6 : Int64) + (q1 % (4 : Int64)))), (.ref b4)])) rfl (by rw [hml]; rfl) (Steps.refl _) (argsL := [(.long ((6 : Int64) + (q1 % (4 : Int64))))]) (rest := []) (lenOf pd_0_2 rfl) rfl (by show 2 * 0 + _ ≤ _; exact Nat.le_of_eq rfl) (hb hby at_108) (fun _ _ => ⟨rfl, rfl, (by decide : 5 + 0 ≤ _), (by decide : 31 + 0 ≤ _)⟩)
  dsimp only [Pt.U, Pt.locs, Pt.cells, Pt.slots] at X6 l6 y6 z6 st6 hQ6
  subst l6 y6 z6
  obtain ⟨rfl, N6q, hh6⟩ := hQ6
  have N6 := Fr.app N5 N6q
  obtain ⟨fs, hr, hrun, hended, hW, hsame⟩ := X6.leave (v := some (.int (1 : Int32))) (fun h => by rw [Bd.returns] at h; cases h)
  refine ⟨_, _, pre0 _ ?_, hrun, hended, _, _, rfl, ?_, ⟨_, rfl⟩, hW, hsame.mono (by decide) (by decide)⟩
  · show Steps p.tables e below (s₁.setTop (mkF m 0 #[.val (.long q1), .second, .val (.int p2), .val (.int p3), .unset, .unset, .unset, .unset, .unset, .unset, .unset, .unset, .unset] [])) _
    refine XS.iloadN X0.here hx rfl (hb hby at_0) rfl ?_
    show Steps p.tables e below (s₁.setTop (mkF m 1 #[.val (.long q1), .second, .val (.int p2), .val (.int p3), .unset, .unset, .unset, .unset, .unset, .unset, .unset, .unset, .unset] [(.int p2)])) _
    refine XS.bipush X0.here hx rfl (hb hby at_1) ?_
    show Steps p.tables e below (s₁.setTop (mkF m 3 #[.val (.long q1), .second, .val (.int p2), .val (.int p3), .unset, .unset, .unset, .unset, .unset, .unset, .unset, .unset, .unset] [(.int (7 : Int32)), (.int p2)])) _
    refine XS.iand X0.here hx rfl (hb hby at_3) rfl ?_
    show Steps p.tables e below (s₁.setTop (mkF m 4 #[.val (.long q1), .second, .val (.int p2), .val (.int p3), .unset, .unset, .unset, .unset, .unset, .unset, .unset, .unset, .unset] [(.int (p2 &&& (7 : Int32)))])) _
    refine XS.istore X0.here hx rfl (hb hby at_4) rfl (l' := #[.val (.long q1), .second, .val (.int p2), .val (.int p3), .val (.int (p2 &&& (7 : Int32))), .unset, .unset, .unset, .unset, .unset, .unset, .unset, .unset]) rfl ?_
    show Steps p.tables e below (s₁.setTop (mkF m 6 #[.val (.long q1), .second, .val (.int p2), .val (.int p3), .val (.int (p2 &&& (7 : Int32))), .unset, .unset, .unset, .unset, .unset, .unset, .unset, .unset] [])) _
    refine XS.iloadN X0.here hx rfl (hb hby at_6) rfl ?_
    show Steps p.tables e below (s₁.setTop (mkF m 7 #[.val (.long q1), .second, .val (.int p2), .val (.int p3), .val (.int (p2 &&& (7 : Int32))), .unset, .unset, .unset, .unset, .unset, .unset, .unset, .unset] [(.int p3)])) _
    refine XS.iconst X0.here hx rfl (hb hby at_7) ?_
    show Steps p.tables e below (s₁.setTop (mkF m 8 #[.val (.long q1), .second, .val (.int p2), .val (.int p3), .val (.int (p2 &&& (7 : Int32))), .unset, .unset, .unset, .unset, .unset, .unset, .unset, .unset] [(.int (2 : Int32)), (.int p3)])) _
    refine XS.iand X0.here hx rfl (hb hby at_8) rfl ?_
    show Steps p.tables e below (s₁.setTop (mkF m 9 #[.val (.long q1), .second, .val (.int p2), .val (.int p3), .val (.int (p2 &&& (7 : Int32))), .unset, .unset, .unset, .unset, .unset, .unset, .unset, .unset] [(.int (p3 &&& (2 : Int32)))])) _
    refine XS.ifYes X0.here hx rfl (pc0 := 9) (pc' := 16) rfl (hb hby at_9) rfl ((if0 _ _).trans (teq hc9).1) (by decide) (by decide) ?_
    show Steps p.tables e below (s₁.setTop (mkF m 16 #[.val (.long q1), .second, .val (.int p2), .val (.int p3), .val (.int (p2 &&& (7 : Int32))), .unset, .unset, .unset, .unset, .unset, .unset, .unset, .unset] [])) _
    refine XS.iconst X0.here hx rfl (hb hby at_16) ?_
    show Steps p.tables e below (s₁.setTop (mkF m 17 #[.val (.long q1), .second, .val (.int p2), .val (.int p3), .val (.int (p2 &&& (7 : Int32))), .unset, .unset, .unset, .unset, .unset, .unset, .unset, .unset] [(.int (0 : Int32))])) _
    refine XS.istore X0.here hx rfl (hb hby at_17) rfl (l' := #[.val (.long q1), .second, .val (.int p2), .val (.int p3), .val (.int (p2 &&& (7 : Int32))), .val (.int (0 : Int32)), .unset, .unset, .unset, .unset, .unset, .unset, .unset]) rfl ?_
    show Steps p.tables e below (s₁.setTop (mkF m 19 #[.val (.long q1), .second, .val (.int p2), .val (.int p3), .val (.int (p2 &&& (7 : Int32))), .val (.int (0 : Int32)), .unset, .unset, .unset, .unset, .unset, .unset, .unset] [])) _
    refine XS.iloadN X0.here hx rfl (hb hby at_19) rfl ?_
    show Steps p.tables e below (s₁.setTop (mkF m 20 #[.val (.long q1), .second, .val (.int p2), .val (.int p3), .val (.int (p2 &&& (7 : Int32))), .val (.int (0 : Int32)), .unset, .unset, .unset, .unset, .unset, .unset, .unset] [(.int p3)])) _
    refine XS.iconst X0.here hx rfl (hb hby at_20) ?_
    show Steps p.tables e below (s₁.setTop (mkF m 21 #[.val (.long q1), .second, .val (.int p2), .val (.int p3), .val (.int (p2 &&& (7 : Int32))), .val (.int (0 : Int32)), .unset, .unset, .unset, .unset, .unset, .unset, .unset] [(.int (1 : Int32)), (.int p3)])) _
    refine XS.iand X0.here hx rfl (hb hby at_21) rfl ?_
    show Steps p.tables e below (s₁.setTop (mkF m 22 #[.val (.long q1), .second, .val (.int p2), .val (.int p3), .val (.int (p2 &&& (7 : Int32))), .val (.int (0 : Int32)), .unset, .unset, .unset, .unset, .unset, .unset, .unset] [(.int (p3 &&& (1 : Int32)))])) _
    refine XS.ifYes X0.here hx rfl (pc0 := 22) (pc' := 29) rfl (hb hby at_22) rfl ((if0 _ _).trans (teq hc22).1) (by decide) (by decide) ?_
    show Steps p.tables e below (s₁.setTop (mkF m 29 #[.val (.long q1), .second, .val (.int p2), .val (.int p3), .val (.int (p2 &&& (7 : Int32))), .val (.int (0 : Int32)), .unset, .unset, .unset, .unset, .unset, .unset, .unset] [])) _
    refine XS.iconst X0.here hx rfl (hb hby at_29) ?_
    show Steps p.tables e below (s₁.setTop (mkF m 30 #[.val (.long q1), .second, .val (.int p2), .val (.int p3), .val (.int (p2 &&& (7 : Int32))), .val (.int (0 : Int32)), .unset, .unset, .unset, .unset, .unset, .unset, .unset] [(.int (0 : Int32))])) _
    refine XS.istore X0.here hx rfl (hb hby at_30) rfl (l' := #[.val (.long q1), .second, .val (.int p2), .val (.int p3), .val (.int (p2 &&& (7 : Int32))), .val (.int (0 : Int32)), .val (.int (0 : Int32)), .unset, .unset, .unset, .unset, .unset, .unset]) rfl ?_
    show Steps p.tables e below (s₁.setTop (mkF m 32 #[.val (.long q1), .second, .val (.int p2), .val (.int p3), .val (.int (p2 &&& (7 : Int32))), .val (.int (0 : Int32)), .val (.int (0 : Int32)), .unset, .unset, .unset, .unset, .unset, .unset] [])) _
    refine st4 _ ?_
    show Steps p.tables e below (T4.setTop (mkF m 35 #[.val (.long q1), .second, .val (.int p2), .val (.int p3), .val (.int (p2 &&& (7 : Int32))), .val (.int (0 : Int32)), .val (.int (0 : Int32)), .unset, .unset, .unset, .unset, .unset, .unset] [(.ref b4)])) _
    refine XS.dup X4.here hx rfl (hb hby at_35) rfl rfl ?_
    show Steps p.tables e below (T4.setTop (mkF m 36 #[.val (.long q1), .second, .val (.int p2), .val (.int p3), .val (.int (p2 &&& (7 : Int32))), .val (.int (0 : Int32)), .val (.int (0 : Int32)), .unset, .unset, .unset, .unset, .unset, .unset] [(.ref b4), (.ref b4)])) _
    refine st5.trans ?_
    show Steps p.tables e below (T5.setTop (mkF m 39 #[.val (.long q1), .second, .val (.int p2), .val (.int p3), .val (.int (p2 &&& (7 : Int32))), .val (.int (0 : Int32)), .val (.int (0 : Int32)), .unset, .unset, .unset, .unset, .unset, .unset] [(.ref b4)])) _
    refine XS.astore X5.here hx rfl (hb hby at_39) rfl rfl (l' := #[.val (.long q1), .second, .val (.int p2), .val (.int p3), .val (.int (p2 &&& (7 : Int32))), .val (.int (0 : Int32)), .val (.int (0 : Int32)), .val (.ref b4), .unset, .unset, .unset, .unset, .unset]) rfl ?_
    show Steps p.tables e below (T5.setTop (mkF m 41 #[.val (.long q1), .second, .val (.int p2), .val (.int p3), .val (.int (p2 &&& (7 : Int32))), .val (.int (0 : Int32)), .val (.int (0 : Int32)), .val (.ref b4), .unset, .unset, .unset, .unset, .unset] [])) _
    refine X5.ldc2Long hx hown (mvT hZ (hw _ (List.mem_of_getElem? (i := 28) rfl))) (g := (mkF m 41 #[.val (.long q1), .second, .val (.int p2), .val (.int p3), .val (.int (p2 &&& (7 : Int32))), .val (.int (0 : Int32)), .val (.int (0 : Int32)), .val (.ref b4), .unset, .unset, .unset, .unset, .unset] [])) rfl (hb hby at_41) _ ?_
    show Steps p.tables e below (T5.setTop (mkF m 44 #[.val (.long q1), .second, .val (.int p2), .val (.int p3), .val (.int (p2 &&& (7 : Int32))), .val (.int (0 : Int32)), .val (.int (0 : Int32)), .val (.ref b4), .unset, .unset, .unset, .unset, .unset] [(.long (6 : Int64))])) _
    refine XS.lstore X5.here hx rfl (hb hby at_44) rfl (l' := #[.val (.long q1), .second, .val (.int p2), .val (.int p3), .val (.int (p2 &&& (7 : Int32))), .val (.int (0 : Int32)), .val (.int (0 : Int32)), .val (.ref b4), .val (.long (6 : Int64)), .second, .unset, .unset, .unset]) rfl ?_
    show Steps p.tables e below (T5.setTop (mkF m 46 #[.val (.long q1), .second, .val (.int p2), .val (.int p3), .val (.int (p2 &&& (7 : Int32))), .val (.int (0 : Int32)), .val (.int (0 : Int32)), .val (.ref b4), .val (.long (6 : Int64)), .second, .unset, .unset, .unset] [])) _
    refine XS.iload X5.here hx rfl (hb hby at_46) rfl ?_
    show Steps p.tables e below (T5.setTop (mkF m 48 #[.val (.long q1), .second, .val (.int p2), .val (.int p3), .val (.int (p2 &&& (7 : Int32))), .val (.int (0 : Int32)), .val (.int (0 : Int32)), .val (.ref b4), .val (.long (6 : Int64)), .second, .unset, .unset, .unset] [(.int (0 : Int32))])) _
    refine XS.ifYes X5.here hx rfl (pc0 := 48) (pc' := 70) rfl (hb hby at_48) rfl ((if0 _ _).trans (teq (rfl : (0 : Int32) = (0 : Int32))).1) (by decide) (by decide) ?_
    show Steps p.tables e below (T5.setTop (mkF m 70 #[.val (.long q1), .second, .val (.int p2), .val (.int p3), .val (.int (p2 &&& (7 : Int32))), .val (.int (0 : Int32)), .val (.int (0 : Int32)), .val (.ref b4), .val (.long (6 : Int64)), .second, .unset, .unset, .unset] [])) _
    refine XS.iload X5.here hx rfl (hb hby at_70) rfl ?_
    show Steps p.tables e below (T5.setTop (mkF m 72 #[.val (.long q1), .second, .val (.int p2), .val (.int p3), .val (.int (p2 &&& (7 : Int32))), .val (.int (0 : Int32)), .val (.int (0 : Int32)), .val (.ref b4), .val (.long (6 : Int64)), .second, .unset, .unset, .unset] [(.int (0 : Int32))])) _
    refine XS.ifYes X5.here hx rfl (pc0 := 72) (pc' := 79) rfl (hb hby at_72) rfl ((if0 _ _).trans (teq (rfl : (0 : Int32) = (0 : Int32))).1) (by decide) (by decide) ?_
    show Steps p.tables e below (T5.setTop (mkF m 79 #[.val (.long q1), .second, .val (.int p2), .val (.int p3), .val (.int (p2 &&& (7 : Int32))), .val (.int (0 : Int32)), .val (.int (0 : Int32)), .val (.ref b4), .val (.long (6 : Int64)), .second, .unset, .unset, .unset] [])) _
    refine XS.lload X5.here hx rfl (hb hby at_79) rfl ?_
    show Steps p.tables e below (T5.setTop (mkF m 81 #[.val (.long q1), .second, .val (.int p2), .val (.int p3), .val (.int (p2 &&& (7 : Int32))), .val (.int (0 : Int32)), .val (.int (0 : Int32)), .val (.ref b4), .val (.long (6 : Int64)), .second, .unset, .unset, .unset] [(.long (6 : Int64))])) _
    refine XS.lloadN X5.here hx rfl (hb hby at_81) rfl ?_
    show Steps p.tables e below (T5.setTop (mkF m 82 #[.val (.long q1), .second, .val (.int p2), .val (.int p3), .val (.int (p2 &&& (7 : Int32))), .val (.int (0 : Int32)), .val (.int (0 : Int32)), .val (.ref b4), .val (.long (6 : Int64)), .second, .unset, .unset, .unset] [(.long q1), (.long (6 : Int64))])) _
    refine X5.ldc2Long hx hown (mvT hZ (hw _ (List.mem_of_getElem? (i := 44) rfl))) (g := (mkF m 82 #[.val (.long q1), .second, .val (.int p2), .val (.int p3), .val (.int (p2 &&& (7 : Int32))), .val (.int (0 : Int32)), .val (.int (0 : Int32)), .val (.ref b4), .val (.long (6 : Int64)), .second, .unset, .unset, .unset] [(.long q1), (.long (6 : Int64))])) rfl (hb hby at_82) _ ?_
    show Steps p.tables e below (T5.setTop (mkF m 85 #[.val (.long q1), .second, .val (.int p2), .val (.int p3), .val (.int (p2 &&& (7 : Int32))), .val (.int (0 : Int32)), .val (.int (0 : Int32)), .val (.ref b4), .val (.long (6 : Int64)), .second, .unset, .unset, .unset] [(.long (4 : Int64)), (.long q1), (.long (6 : Int64))])) _
    refine XS.lrem X5.here hx rfl (hb hby at_85) rfl hnz85 ?_
    rw [lrem_mod]
    show Steps p.tables e below (T5.setTop (mkF m 86 #[.val (.long q1), .second, .val (.int p2), .val (.int p3), .val (.int (p2 &&& (7 : Int32))), .val (.int (0 : Int32)), .val (.int (0 : Int32)), .val (.ref b4), .val (.long (6 : Int64)), .second, .unset, .unset, .unset] [(.long (q1 % (4 : Int64))), (.long (6 : Int64))])) _
    refine XS.ladd X5.here hx rfl (hb hby at_86) rfl ?_
    show Steps p.tables e below (T5.setTop (mkF m 87 #[.val (.long q1), .second, .val (.int p2), .val (.int p3), .val (.int (p2 &&& (7 : Int32))), .val (.int (0 : Int32)), .val (.int (0 : Int32)), .val (.ref b4), .val (.long (6 : Int64)), .second, .unset, .unset, .unset] [(.long ((6 : Int64) + (q1 % (4 : Int64))))])) _
    refine XS.lstore X5.here hx rfl (hb hby at_87) rfl (l' := #[.val (.long q1), .second, .val (.int p2), .val (.int p3), .val (.int (p2 &&& (7 : Int32))), .val (.int (0 : Int32)), .val (.int (0 : Int32)), .val (.ref b4), .val (.long (6 : Int64)), .second, .val (.long ((6 : Int64) + (q1 % (4 : Int64)))), .second, .unset]) rfl ?_
    show Steps p.tables e below (T5.setTop (mkF m 89 #[.val (.long q1), .second, .val (.int p2), .val (.int p3), .val (.int (p2 &&& (7 : Int32))), .val (.int (0 : Int32)), .val (.int (0 : Int32)), .val (.ref b4), .val (.long (6 : Int64)), .second, .val (.long ((6 : Int64) + (q1 % (4 : Int64)))), .second, .unset] [])) _
    refine XS.lload X5.here hx rfl (hb hby at_89) rfl ?_
    show Steps p.tables e below (T5.setTop (mkF m 91 #[.val (.long q1), .second, .val (.int p2), .val (.int p3), .val (.int (p2 &&& (7 : Int32))), .val (.int (0 : Int32)), .val (.int (0 : Int32)), .val (.ref b4), .val (.long (6 : Int64)), .second, .val (.long ((6 : Int64) + (q1 % (4 : Int64)))), .second, .unset] [(.long ((6 : Int64) + (q1 % (4 : Int64))))])) _
    refine XS.lload X5.here hx rfl (hb hby at_91) rfl ?_
    show Steps p.tables e below (T5.setTop (mkF m 93 #[.val (.long q1), .second, .val (.int p2), .val (.int p3), .val (.int (p2 &&& (7 : Int32))), .val (.int (0 : Int32)), .val (.int (0 : Int32)), .val (.ref b4), .val (.long (6 : Int64)), .second, .val (.long ((6 : Int64) + (q1 % (4 : Int64)))), .second, .unset] [(.long (6 : Int64)), (.long ((6 : Int64) + (q1 % (4 : Int64))))])) _
    refine XS.lcmp X5.here hx rfl (hb hby at_93) rfl ?_
    show Steps p.tables e below (T5.setTop (mkF m 94 #[.val (.long q1), .second, .val (.int p2), .val (.int p3), .val (.int (p2 &&& (7 : Int32))), .val (.int (0 : Int32)), .val (.int (0 : Int32)), .val (.ref b4), .val (.long (6 : Int64)), .second, .val (.long ((6 : Int64) + (q1 % (4 : Int64)))), .second, .unset] [(.int (lcmpW ((6 : Int64) + (q1 % (4 : Int64))) (6 : Int64)))])) _
    refine XS.ifNo X5.here hx rfl (hb hby at_94) rfl ((if0 _ _).trans (flt hc94).2.2.1) ?_
    show Steps p.tables e below (T5.setTop (mkF m 97 #[.val (.long q1), .second, .val (.int p2), .val (.int p3), .val (.int (p2 &&& (7 : Int32))), .val (.int (0 : Int32)), .val (.int (0 : Int32)), .val (.ref b4), .val (.long (6 : Int64)), .second, .val (.long ((6 : Int64) + (q1 % (4 : Int64)))), .second, .unset] [])) _
    refine XS.iconst X5.here hx rfl (hb hby at_97) ?_
    show Steps p.tables e below (T5.setTop (mkF m 98 #[.val (.long q1), .second, .val (.int p2), .val (.int p3), .val (.int (p2 &&& (7 : Int32))), .val (.int (0 : Int32)), .val (.int (0 : Int32)), .val (.ref b4), .val (.long (6 : Int64)), .second, .val (.long ((6 : Int64) + (q1 % (4 : Int64)))), .second, .unset] [(.int (1 : Int32))])) _
    refine XS.goto X5.here hx rfl (pc0 := 98) (pc' := 102) rfl (hb hby at_98) (by decide) (by decide) ?_
    show Steps p.tables e below (T5.setTop (mkF m 102 #[.val (.long q1), .second, .val (.int p2), .val (.int p3), .val (.int (p2 &&& (7 : Int32))), .val (.int (0 : Int32)), .val (.int (0 : Int32)), .val (.ref b4), .val (.long (6 : Int64)), .second, .val (.long ((6 : Int64) + (q1 % (4 : Int64)))), .second, .unset] [(.int (1 : Int32))])) _
    refine XS.istore X5.here hx rfl (hb hby at_102) rfl (l' := #[.val (.long q1), .second, .val (.int p2), .val (.int p3), .val (.int (p2 &&& (7 : Int32))), .val (.int (0 : Int32)), .val (.int (0 : Int32)), .val (.ref b4), .val (.long (6 : Int64)), .second, .val (.long ((6 : Int64) + (q1 % (4 : Int64)))), .second, .val (.int (1 : Int32))]) rfl ?_
    show Steps p.tables e below (T5.setTop (mkF m 104 #[.val (.long q1), .second, .val (.int p2), .val (.int p3), .val (.int (p2 &&& (7 : Int32))), .val (.int (0 : Int32)), .val (.int (0 : Int32)), .val (.ref b4), .val (.long (6 : Int64)), .second, .val (.long ((6 : Int64) + (q1 % (4 : Int64)))), .second, .val (.int (1 : Int32))] [])) _
    refine XS.aload X5.here hx rfl (hb hby at_104) rfl rfl ?_
    show Steps p.tables e below (T5.setTop (mkF m 106 #[.val (.long q1), .second, .val (.int p2), .val (.int p3), .val (.int (p2 &&& (7 : Int32))), .val (.int (0 : Int32)), .val (.int (0 : Int32)), .val (.ref b4), .val (.long (6 : Int64)), .second, .val (.long ((6 : Int64) + (q1 % (4 : Int64)))), .second, .val (.int (1 : Int32))] [(.ref b4)])) _
    refine XS.lload X5.here hx rfl (hb hby at_106) rfl ?_
    show Steps p.tables e below (T5.setTop (mkF m 108 #[.val (.long q1), .second, .val (.int p2), .val (.int p3), .val (.int (p2 &&& (7 : Int32))), .val (.int (0 : Int32)), .val (.int (0 : Int32)), .val (.ref b4), .val (.long (6 : Int64)), .second, .val (.long ((6 : Int64) + (q1 % (4 : Int64)))), .second, .val (.int (1 : Int32))] [(.long ((6 : Int64) + (q1 % (4 : Int64)))), (.ref b4)])) _
    refine st6.trans ?_
    show Steps p.tables e below (T6.setTop (mkF m 111 #[.val (.long q1), .second, .val (.int p2), .val (.int p3), .val (.int (p2 &&& (7 : Int32))), .val (.int (0 : Int32)), .val (.int (0 : Int32)), .val (.ref b4), .val (.long (6 : Int64)), .second, .val (.long ((6 : Int64) + (q1 % (4 : Int64)))), .second, .val (.int (1 : Int32))] [(.int (1 : Int32))])) _
    refine XS.iload X6.here hx rfl (hb hby at_111) rfl ?_
    show Steps p.tables e below (T6.setTop (mkF m 113 #[.val (.long q1), .second, .val (.int p2), .val (.int p3), .val (.int (p2 &&& (7 : Int32))), .val (.int (0 : Int32)), .val (.int (0 : Int32)), .val (.ref b4), .val (.long (6 : Int64)), .second, .val (.long ((6 : Int64) + (q1 % (4 : Int64)))), .second, .val (.int (1 : Int32))] [(.int (1 : Int32)), (.int (1 : Int32))])) _
    refine XS.icmpNo X6.here hx rfl (hb hby at_113) rfl (teq (rfl : (1 : Int32) = (1 : Int32))).2 ?_
    show Steps p.tables e below (T6.setTop (mkF m 116 #[.val (.long q1), .second, .val (.int p2), .val (.int p3), .val (.int (p2 &&& (7 : Int32))), .val (.int (0 : Int32)), .val (.int (0 : Int32)), .val (.ref b4), .val (.long (6 : Int64)), .second, .val (.long ((6 : Int64) + (q1 % (4 : Int64)))), .second, .val (.int (1 : Int32))] [])) _
    refine XS.iconst X6.here hx rfl (hb hby at_116) ?_
    show Steps p.tables e below (T6.setTop (mkF m 117 #[.val (.long q1), .second, .val (.int p2), .val (.int p3), .val (.int (p2 &&& (7 : Int32))), .val (.int (0 : Int32)), .val (.int (0 : Int32)), .val (.ref b4), .val (.long (6 : Int64)), .second, .val (.long ((6 : Int64) + (q1 % (4 : Int64)))), .second, .val (.int (1 : Int32))] [(.int (1 : Int32))])) _
    refine XS.goto X6.here hx rfl (pc0 := 117) (pc' := 121) rfl (hb hby at_117) (by decide) (by decide) ?_
    show Steps p.tables e below (T6.setTop (mkF m 121 #[.val (.long q1), .second, .val (.int p2), .val (.int p3), .val (.int (p2 &&& (7 : Int32))), .val (.int (0 : Int32)), .val (.int (0 : Int32)), .val (.ref b4), .val (.long (6 : Int64)), .second, .val (.long ((6 : Int64) + (q1 % (4 : Int64)))), .second, .val (.int (1 : Int32))] [(.int (1 : Int32))])) _
    exact retN X6 hx (t := .boolean) Bd.returns (by simp) (hb hby at_121) hr
  · show Qz  h0 n0 _ T6.heap _
    rw [hh6]
    exact ⟨rfl, N6⟩
set_option maxRecDepth 65536 in
set_option maxHeartbeats 40000000 in
theorem rm0_tttttf (l : Launch) (Z : State) (a0 : Array Value) (hw : ∀ d ∈ tables_1, d.before a0 Z = true) (ws : List Jvm.Cond) (q1 : Int64) (p2 : Int32) (p3 : Int32) (h0 : Heap) (n0 : Nat) (Z0 : n0 ≤ h0.size) (hcap : ((((8 : Int32) / (4 : Int32)) * (3 : Int32)).toInt64) = (6 : Int64)) (hc9 : (p3 &&& (2 : Int32)) = (0 : Int32)) (hc22 : (p3 &&& (1 : Int32)) = (0 : Int32)) (hnz85 : ¬ ((4 : Int64) = (0 : Int64))) (hc94 : (0 : Int32) < (lcmpW ((6 : Int64) + (q1 % (4 : Int64))) (6 : Int64))) :
    MetFree l x (head1 (Jvm.Cond.code x code maxLocals ret :: ws) room_1) (fun a U => a = #[(.long q1), (.int p2), (.int p3)] ∧ Z.Warmed39 U.vm ∧ U.heap = h0) (fun _ _ _ _ _ => True) (fun _ U o U' => ∃ v L, o = .returned v ∧ Qz  h0 n0 v U'.heap L ∧ FrameEnd U o U' L room_1.cells room_1.slots) := by
  refine MetFree.of_bodySF (plainFor_of_name pn_0) hisR ?_
  intro p e s m args below meth c s₁ Bd hml0 hP hK
  obtain ⟨rfl, hZ, hh⟩ := hP
  have hx := Bd.exec
  have hby := Bd.bytes
  have hml : c.maxLocals = 13 := hml0
  have hown : s.vm.findClass "com/example/wheredb/wheredb/storage/MemorySetHasRoomForPinLaw" = some m.cls := findClass_of_methodNamed Bd.named
  have hnm := (name_of_methodNamed Bd.named Bd.method).1
  have X0 : Stand p l e room_1 s m #[(.long q1), (.int p2), (.int p3)] below meth c s₁ [] 0 0 := Stand.of_body Bd
  have e0 : s₁.heap = h0 := by rw [← hh, Bd.state]; rfl
  have N0 := Fr.nil n0
  have pre0 : ∀ t, Steps p.tables e below (s₁.setTop (mkF m 0 #[.val (.long q1), .second, .val (.int p2), .val (.int p3), .unset, .unset, .unset, .unset, .unset, .unset, .unset, .unset, .unset] [])) t → Steps p.tables e below (s₁.setTop (entryFrame m #[(.long q1), (.int p2), (.int p3)] maxLocals)) t := fun t k => castTop (ef_0 m q1 p2 p3) k
  obtain ⟨T4, h4, X4, e4, E4, A4, D4, -, st4⟩ := newO X0 hx hZ hown (hw _ (List.mem_of_getElem? (i := 0) rfl)) (hw _ (List.mem_of_getElem? (i := 1) rfl)) (hw _ (List.mem_of_getElem? (i := 2) rfl)) e0 (g := (mkF m 32 #[.val (.long q1), .second, .val (.int p2), .val (.int p3), .val (.int (p2 &&& (7 : Int32))), .val (.int (0 : Int32)), .val (.int (0 : Int32)), .unset, .unset, .unset, .unset, .unset, .unset] [])) rfl (hb hby at_32) (by decide) (by decide)
  obtain ⟨b4, g4⟩ : ∃ z, z = h0.size := ⟨_, rfl⟩
  rw [← g4] at A4 D4 st4
  have F_chunks_b4 : Fld Z h4 b4 "com/example/wheredb/wheredb/storage/MemorySet" "chunks" "[Lcom/example/wheredb/wheredb/storage/MemorySet$Chunk;" .null := D4 (Or.inl (hw _ (List.mem_of_getElem? (i := 12) rfl))) (ty := (.array (.object "com/example/wheredb/wheredb/storage/MemorySet$Chunk"))) (by decide)
  have F_lastCells_b4 : Fld Z h4 b4 "com/example/wheredb/wheredb/storage/MemorySet" "lastCells" "[J" .null := D4 (Or.inl (hw _ (List.mem_of_getElem? (i := 15) rfl))) (ty := (.array .long)) (by decide)
  have F_slotHashes_b4 : Fld Z h4 b4 "com/example/wheredb/wheredb/storage/MemorySet" "slotHashes" "[I" .null := D4 (Or.inl (hw _ (List.mem_of_getElem? (i := 18) rfl))) (ty := (.array .int)) (by decide)
  have F_slotCells_b4 : Fld Z h4 b4 "com/example/wheredb/wheredb/storage/MemorySet" "slotCells" "[J" .null := D4 (Or.inl (hw _ (List.mem_of_getElem? (i := 20) rfl))) (ty := (.array .long)) (by decide)
  have F_slotShift_b4 : Fld Z h4 b4 "com/example/wheredb/wheredb/storage/MemorySet" "slotShift" "I" (.int (0 : Int32)) := D4 (Or.inl (hw _ (List.mem_of_getElem? (i := 27) rfl))) (ty := .int) (by decide)
  have E_b4 := A4
  have g_b4 : n0 ≤ b4 := Nat.le_trans Z0 (Nat.le_of_eq g4.symm)
  have sz_b4 : h0.size ≤ b4 := (Nat.le_trans (Keep.refl h0 []).1 (Nat.le_of_eq g4.symm))
  have K4 : Keep h0 h4 [] := (Keep.refl h0 []).ext E4
  obtain ⟨_, _, ⟨T5, L5, k5, n5⟩, -, X5, ⟨Lc5, hQ5, l5, y5, z5⟩, st5⟩ := X4.specialBack hx (y := (⟨"com/example/wheredb/wheredb/storage/MemorySet", "<init>", "()V"⟩ : MethodName)) rfl hown (mvT hZ (hw _ (List.mem_of_getElem? (i := 3) rfl))) (mvT hZ (hw _ (List.mem_of_getElem? (i := 4) rfl))) (mvT hZ (hw _ (List.mem_of_getElem? (i := 5) rfl))) (by decide) (backOf (W := 1) (rm1 l Z a0 hw [] b4 .null .null .null .null (.int (0 : Int32)) h4 n0 (Nat.le_trans Z0 E4.1) E_b4 F_chunks_b4 g_b4 F_lastCells_b4 F_slotHashes_b4 F_slotCells_b4 F_slotShift_b4) hZ (hw _ (List.mem_of_getElem? (i := 5) rfl)) (hw _ (List.mem_of_getElem? (i := 2) rfl)) (by decide) (by decide)) (g := (mkF m 36 #[.val (.long q1), .second, .val (.int p2), .val (.int p3), .val (.int (p2 &&& (7 : Int32))), .val (.int (0 : Int32)), .val (.int (0 : Int32)), .unset, .unset, .unset, .unset, .unset, .unset] [(.ref b4), (.ref b4)])) rfl (by rw [hml]; rfl) (Steps.refl _) (a := b4) (argsL := []) (rest := [(.ref b4)]) (lenOf pd_0_0 rfl) rfl (by show 2 * 0 + _ ≤ _; exact Nat.le_of_eq rfl) (hb hby at_36) (fun _ _ => ⟨rfl, e4, (by decide : 1 + 4 ≤ _), (by decide : 7 + 24 ≤ _)⟩)
  dsimp only [Pt.U, Pt.locs, Pt.cells, Pt.slots] at X5 l5 y5 z5 st5 hQ5
  subst l5 y5 z5
  obtain ⟨rfl, N5q, Kc5, Ec5, bh5, bc5, kb5, rs5, Fh5, Fs5, Ft5, Vb5⟩ := hQ5
  have N5 := Fr.app N0 N5q
  have K5 : Keep h0 T5.heap [] := K4.trans Kc5 (allS (Or.inr sz_b4) all0)
  obtain ⟨cl_c6, Ar_c6, -, S_c6, N_c6, -, -⟩ := Vb5
  obtain ⟨cq6, kq6, q6a, q6b, q6c⟩ := isOf hZ rfl Ec5
  obtain ⟨_, _, ⟨T6, L6, k6, n6⟩, -, X6, ⟨Lc6, hQ6, l6, y6, z6⟩, st6⟩ := X5.virtualBack hx (y := (⟨"com/example/wheredb/wheredb/storage/MemorySet", "hasRoomFor", "(J)Z"⟩ : MethodName)) (z := (⟨"com/example/wheredb/wheredb/storage/MemorySet", "hasRoomFor", "(J)Z"⟩ : MethodName)) hown (mvT hZ (hw _ (List.mem_of_getElem? (i := 29) rfl))) (mvT hZ (hw _ (List.mem_of_getElem? (i := 30) rfl))) (notFace_of_selects (args := #[]) (mvT hZ (hw _ (List.mem_of_getElem? (i := 32) rfl)))) (mvT hZ (hw _ (List.mem_of_getElem? (i := 32) rfl))) (mvT hZ (hw _ (List.mem_of_getElem? (i := 31) rfl))) (by decide) (backOf (W := 0) (rm4_t l Z a0 hw [] b4 ((6 : Int64) + (q1 % (4 : Int64))) bh5 cl_c6 (8 : Int32) T5.heap n0 (Nat.le_trans (Nat.le_trans Z0 E4.1) Kc5.1) Fh5 Ar_c6 S_c6 N_c6 (by decide) (by rw [hcap]; exact hc94)) hZ (hw _ (List.mem_of_getElem? (i := 33) rfl)) (hw _ (List.mem_of_getElem? (i := 2) rfl)) (by decide) (by decide)) q6a q6c (g := (mkF m 108 #[.val (.long q1), .second, .val (.int p2), .val (.int p3), .val (.int (p2 &&& (7 : Int32))), .val (.int (0 : Int32)), .val (.int (0 : Int32)), .val (.ref b4), .val (.long (6 : Int64)), .second, .val (.long ((6 : Int64) + (q1 % (4 : Int64)))), .second, .val (.int (0 : Int32))] [(.long ((6 : Int64) + (q1 % (4 : Int64)))), (.ref b4)])) rfl (by rw [hml]; rfl) (Steps.refl _) (argsL := [(.long ((6 : Int64) + (q1 % (4 : Int64))))]) (rest := []) (lenOf pd_0_2 rfl) rfl (by show 2 * 0 + _ ≤ _; exact Nat.le_of_eq rfl) (hb hby at_108) (fun _ _ => ⟨rfl, rfl, (by decide : 5 + 0 ≤ _), (by decide : 31 + 0 ≤ _)⟩)
  dsimp only [Pt.U, Pt.locs, Pt.cells, Pt.slots] at X6 l6 y6 z6 st6 hQ6
  subst l6 y6 z6
  obtain ⟨rfl, N6q, hh6⟩ := hQ6
  have N6 := Fr.app N5 N6q
  obtain ⟨fs, hr, hrun, hended, hW, hsame⟩ := X6.leave (v := some (.int (1 : Int32))) (fun h => by rw [Bd.returns] at h; cases h)
  refine ⟨_, _, pre0 _ ?_, hrun, hended, _, _, rfl, ?_, ⟨_, rfl⟩, hW, hsame.mono (by decide) (by decide)⟩
  · show Steps p.tables e below (s₁.setTop (mkF m 0 #[.val (.long q1), .second, .val (.int p2), .val (.int p3), .unset, .unset, .unset, .unset, .unset, .unset, .unset, .unset, .unset] [])) _
    refine XS.iloadN X0.here hx rfl (hb hby at_0) rfl ?_
    show Steps p.tables e below (s₁.setTop (mkF m 1 #[.val (.long q1), .second, .val (.int p2), .val (.int p3), .unset, .unset, .unset, .unset, .unset, .unset, .unset, .unset, .unset] [(.int p2)])) _
    refine XS.bipush X0.here hx rfl (hb hby at_1) ?_
    show Steps p.tables e below (s₁.setTop (mkF m 3 #[.val (.long q1), .second, .val (.int p2), .val (.int p3), .unset, .unset, .unset, .unset, .unset, .unset, .unset, .unset, .unset] [(.int (7 : Int32)), (.int p2)])) _
    refine XS.iand X0.here hx rfl (hb hby at_3) rfl ?_
    show Steps p.tables e below (s₁.setTop (mkF m 4 #[.val (.long q1), .second, .val (.int p2), .val (.int p3), .unset, .unset, .unset, .unset, .unset, .unset, .unset, .unset, .unset] [(.int (p2 &&& (7 : Int32)))])) _
    refine XS.istore X0.here hx rfl (hb hby at_4) rfl (l' := #[.val (.long q1), .second, .val (.int p2), .val (.int p3), .val (.int (p2 &&& (7 : Int32))), .unset, .unset, .unset, .unset, .unset, .unset, .unset, .unset]) rfl ?_
    show Steps p.tables e below (s₁.setTop (mkF m 6 #[.val (.long q1), .second, .val (.int p2), .val (.int p3), .val (.int (p2 &&& (7 : Int32))), .unset, .unset, .unset, .unset, .unset, .unset, .unset, .unset] [])) _
    refine XS.iloadN X0.here hx rfl (hb hby at_6) rfl ?_
    show Steps p.tables e below (s₁.setTop (mkF m 7 #[.val (.long q1), .second, .val (.int p2), .val (.int p3), .val (.int (p2 &&& (7 : Int32))), .unset, .unset, .unset, .unset, .unset, .unset, .unset, .unset] [(.int p3)])) _
    refine XS.iconst X0.here hx rfl (hb hby at_7) ?_
    show Steps p.tables e below (s₁.setTop (mkF m 8 #[.val (.long q1), .second, .val (.int p2), .val (.int p3), .val (.int (p2 &&& (7 : Int32))), .unset, .unset, .unset, .unset, .unset, .unset, .unset, .unset] [(.int (2 : Int32)), (.int p3)])) _
    refine XS.iand X0.here hx rfl (hb hby at_8) rfl ?_
    show Steps p.tables e below (s₁.setTop (mkF m 9 #[.val (.long q1), .second, .val (.int p2), .val (.int p3), .val (.int (p2 &&& (7 : Int32))), .unset, .unset, .unset, .unset, .unset, .unset, .unset, .unset] [(.int (p3 &&& (2 : Int32)))])) _
    refine XS.ifYes X0.here hx rfl (pc0 := 9) (pc' := 16) rfl (hb hby at_9) rfl ((if0 _ _).trans (teq hc9).1) (by decide) (by decide) ?_
    show Steps p.tables e below (s₁.setTop (mkF m 16 #[.val (.long q1), .second, .val (.int p2), .val (.int p3), .val (.int (p2 &&& (7 : Int32))), .unset, .unset, .unset, .unset, .unset, .unset, .unset, .unset] [])) _
    refine XS.iconst X0.here hx rfl (hb hby at_16) ?_
    show Steps p.tables e below (s₁.setTop (mkF m 17 #[.val (.long q1), .second, .val (.int p2), .val (.int p3), .val (.int (p2 &&& (7 : Int32))), .unset, .unset, .unset, .unset, .unset, .unset, .unset, .unset] [(.int (0 : Int32))])) _
    refine XS.istore X0.here hx rfl (hb hby at_17) rfl (l' := #[.val (.long q1), .second, .val (.int p2), .val (.int p3), .val (.int (p2 &&& (7 : Int32))), .val (.int (0 : Int32)), .unset, .unset, .unset, .unset, .unset, .unset, .unset]) rfl ?_
    show Steps p.tables e below (s₁.setTop (mkF m 19 #[.val (.long q1), .second, .val (.int p2), .val (.int p3), .val (.int (p2 &&& (7 : Int32))), .val (.int (0 : Int32)), .unset, .unset, .unset, .unset, .unset, .unset, .unset] [])) _
    refine XS.iloadN X0.here hx rfl (hb hby at_19) rfl ?_
    show Steps p.tables e below (s₁.setTop (mkF m 20 #[.val (.long q1), .second, .val (.int p2), .val (.int p3), .val (.int (p2 &&& (7 : Int32))), .val (.int (0 : Int32)), .unset, .unset, .unset, .unset, .unset, .unset, .unset] [(.int p3)])) _
    refine XS.iconst X0.here hx rfl (hb hby at_20) ?_
    show Steps p.tables e below (s₁.setTop (mkF m 21 #[.val (.long q1), .second, .val (.int p2), .val (.int p3), .val (.int (p2 &&& (7 : Int32))), .val (.int (0 : Int32)), .unset, .unset, .unset, .unset, .unset, .unset, .unset] [(.int (1 : Int32)), (.int p3)])) _
    refine XS.iand X0.here hx rfl (hb hby at_21) rfl ?_
    show Steps p.tables e below (s₁.setTop (mkF m 22 #[.val (.long q1), .second, .val (.int p2), .val (.int p3), .val (.int (p2 &&& (7 : Int32))), .val (.int (0 : Int32)), .unset, .unset, .unset, .unset, .unset, .unset, .unset] [(.int (p3 &&& (1 : Int32)))])) _
    refine XS.ifYes X0.here hx rfl (pc0 := 22) (pc' := 29) rfl (hb hby at_22) rfl ((if0 _ _).trans (teq hc22).1) (by decide) (by decide) ?_
    show Steps p.tables e below (s₁.setTop (mkF m 29 #[.val (.long q1), .second, .val (.int p2), .val (.int p3), .val (.int (p2 &&& (7 : Int32))), .val (.int (0 : Int32)), .unset, .unset, .unset, .unset, .unset, .unset, .unset] [])) _
    refine XS.iconst X0.here hx rfl (hb hby at_29) ?_
    show Steps p.tables e below (s₁.setTop (mkF m 30 #[.val (.long q1), .second, .val (.int p2), .val (.int p3), .val (.int (p2 &&& (7 : Int32))), .val (.int (0 : Int32)), .unset, .unset, .unset, .unset, .unset, .unset, .unset] [(.int (0 : Int32))])) _
    refine XS.istore X0.here hx rfl (hb hby at_30) rfl (l' := #[.val (.long q1), .second, .val (.int p2), .val (.int p3), .val (.int (p2 &&& (7 : Int32))), .val (.int (0 : Int32)), .val (.int (0 : Int32)), .unset, .unset, .unset, .unset, .unset, .unset]) rfl ?_
    show Steps p.tables e below (s₁.setTop (mkF m 32 #[.val (.long q1), .second, .val (.int p2), .val (.int p3), .val (.int (p2 &&& (7 : Int32))), .val (.int (0 : Int32)), .val (.int (0 : Int32)), .unset, .unset, .unset, .unset, .unset, .unset] [])) _
    refine st4 _ ?_
    show Steps p.tables e below (T4.setTop (mkF m 35 #[.val (.long q1), .second, .val (.int p2), .val (.int p3), .val (.int (p2 &&& (7 : Int32))), .val (.int (0 : Int32)), .val (.int (0 : Int32)), .unset, .unset, .unset, .unset, .unset, .unset] [(.ref b4)])) _
    refine XS.dup X4.here hx rfl (hb hby at_35) rfl rfl ?_
    show Steps p.tables e below (T4.setTop (mkF m 36 #[.val (.long q1), .second, .val (.int p2), .val (.int p3), .val (.int (p2 &&& (7 : Int32))), .val (.int (0 : Int32)), .val (.int (0 : Int32)), .unset, .unset, .unset, .unset, .unset, .unset] [(.ref b4), (.ref b4)])) _
    refine st5.trans ?_
    show Steps p.tables e below (T5.setTop (mkF m 39 #[.val (.long q1), .second, .val (.int p2), .val (.int p3), .val (.int (p2 &&& (7 : Int32))), .val (.int (0 : Int32)), .val (.int (0 : Int32)), .unset, .unset, .unset, .unset, .unset, .unset] [(.ref b4)])) _
    refine XS.astore X5.here hx rfl (hb hby at_39) rfl rfl (l' := #[.val (.long q1), .second, .val (.int p2), .val (.int p3), .val (.int (p2 &&& (7 : Int32))), .val (.int (0 : Int32)), .val (.int (0 : Int32)), .val (.ref b4), .unset, .unset, .unset, .unset, .unset]) rfl ?_
    show Steps p.tables e below (T5.setTop (mkF m 41 #[.val (.long q1), .second, .val (.int p2), .val (.int p3), .val (.int (p2 &&& (7 : Int32))), .val (.int (0 : Int32)), .val (.int (0 : Int32)), .val (.ref b4), .unset, .unset, .unset, .unset, .unset] [])) _
    refine X5.ldc2Long hx hown (mvT hZ (hw _ (List.mem_of_getElem? (i := 28) rfl))) (g := (mkF m 41 #[.val (.long q1), .second, .val (.int p2), .val (.int p3), .val (.int (p2 &&& (7 : Int32))), .val (.int (0 : Int32)), .val (.int (0 : Int32)), .val (.ref b4), .unset, .unset, .unset, .unset, .unset] [])) rfl (hb hby at_41) _ ?_
    show Steps p.tables e below (T5.setTop (mkF m 44 #[.val (.long q1), .second, .val (.int p2), .val (.int p3), .val (.int (p2 &&& (7 : Int32))), .val (.int (0 : Int32)), .val (.int (0 : Int32)), .val (.ref b4), .unset, .unset, .unset, .unset, .unset] [(.long (6 : Int64))])) _
    refine XS.lstore X5.here hx rfl (hb hby at_44) rfl (l' := #[.val (.long q1), .second, .val (.int p2), .val (.int p3), .val (.int (p2 &&& (7 : Int32))), .val (.int (0 : Int32)), .val (.int (0 : Int32)), .val (.ref b4), .val (.long (6 : Int64)), .second, .unset, .unset, .unset]) rfl ?_
    show Steps p.tables e below (T5.setTop (mkF m 46 #[.val (.long q1), .second, .val (.int p2), .val (.int p3), .val (.int (p2 &&& (7 : Int32))), .val (.int (0 : Int32)), .val (.int (0 : Int32)), .val (.ref b4), .val (.long (6 : Int64)), .second, .unset, .unset, .unset] [])) _
    refine XS.iload X5.here hx rfl (hb hby at_46) rfl ?_
    show Steps p.tables e below (T5.setTop (mkF m 48 #[.val (.long q1), .second, .val (.int p2), .val (.int p3), .val (.int (p2 &&& (7 : Int32))), .val (.int (0 : Int32)), .val (.int (0 : Int32)), .val (.ref b4), .val (.long (6 : Int64)), .second, .unset, .unset, .unset] [(.int (0 : Int32))])) _
    refine XS.ifYes X5.here hx rfl (pc0 := 48) (pc' := 70) rfl (hb hby at_48) rfl ((if0 _ _).trans (teq (rfl : (0 : Int32) = (0 : Int32))).1) (by decide) (by decide) ?_
    show Steps p.tables e below (T5.setTop (mkF m 70 #[.val (.long q1), .second, .val (.int p2), .val (.int p3), .val (.int (p2 &&& (7 : Int32))), .val (.int (0 : Int32)), .val (.int (0 : Int32)), .val (.ref b4), .val (.long (6 : Int64)), .second, .unset, .unset, .unset] [])) _
    refine XS.iload X5.here hx rfl (hb hby at_70) rfl ?_
    show Steps p.tables e below (T5.setTop (mkF m 72 #[.val (.long q1), .second, .val (.int p2), .val (.int p3), .val (.int (p2 &&& (7 : Int32))), .val (.int (0 : Int32)), .val (.int (0 : Int32)), .val (.ref b4), .val (.long (6 : Int64)), .second, .unset, .unset, .unset] [(.int (0 : Int32))])) _
    refine XS.ifYes X5.here hx rfl (pc0 := 72) (pc' := 79) rfl (hb hby at_72) rfl ((if0 _ _).trans (teq (rfl : (0 : Int32) = (0 : Int32))).1) (by decide) (by decide) ?_
    show Steps p.tables e below (T5.setTop (mkF m 79 #[.val (.long q1), .second, .val (.int p2), .val (.int p3), .val (.int (p2 &&& (7 : Int32))), .val (.int (0 : Int32)), .val (.int (0 : Int32)), .val (.ref b4), .val (.long (6 : Int64)), .second, .unset, .unset, .unset] [])) _
    refine XS.lload X5.here hx rfl (hb hby at_79) rfl ?_
    show Steps p.tables e below (T5.setTop (mkF m 81 #[.val (.long q1), .second, .val (.int p2), .val (.int p3), .val (.int (p2 &&& (7 : Int32))), .val (.int (0 : Int32)), .val (.int (0 : Int32)), .val (.ref b4), .val (.long (6 : Int64)), .second, .unset, .unset, .unset] [(.long (6 : Int64))])) _
    refine XS.lloadN X5.here hx rfl (hb hby at_81) rfl ?_
    show Steps p.tables e below (T5.setTop (mkF m 82 #[.val (.long q1), .second, .val (.int p2), .val (.int p3), .val (.int (p2 &&& (7 : Int32))), .val (.int (0 : Int32)), .val (.int (0 : Int32)), .val (.ref b4), .val (.long (6 : Int64)), .second, .unset, .unset, .unset] [(.long q1), (.long (6 : Int64))])) _
    refine X5.ldc2Long hx hown (mvT hZ (hw _ (List.mem_of_getElem? (i := 44) rfl))) (g := (mkF m 82 #[.val (.long q1), .second, .val (.int p2), .val (.int p3), .val (.int (p2 &&& (7 : Int32))), .val (.int (0 : Int32)), .val (.int (0 : Int32)), .val (.ref b4), .val (.long (6 : Int64)), .second, .unset, .unset, .unset] [(.long q1), (.long (6 : Int64))])) rfl (hb hby at_82) _ ?_
    show Steps p.tables e below (T5.setTop (mkF m 85 #[.val (.long q1), .second, .val (.int p2), .val (.int p3), .val (.int (p2 &&& (7 : Int32))), .val (.int (0 : Int32)), .val (.int (0 : Int32)), .val (.ref b4), .val (.long (6 : Int64)), .second, .unset, .unset, .unset] [(.long (4 : Int64)), (.long q1), (.long (6 : Int64))])) _
    refine XS.lrem X5.here hx rfl (hb hby at_85) rfl hnz85 ?_
    rw [lrem_mod]
    show Steps p.tables e below (T5.setTop (mkF m 86 #[.val (.long q1), .second, .val (.int p2), .val (.int p3), .val (.int (p2 &&& (7 : Int32))), .val (.int (0 : Int32)), .val (.int (0 : Int32)), .val (.ref b4), .val (.long (6 : Int64)), .second, .unset, .unset, .unset] [(.long (q1 % (4 : Int64))), (.long (6 : Int64))])) _
    refine XS.ladd X5.here hx rfl (hb hby at_86) rfl ?_
    show Steps p.tables e below (T5.setTop (mkF m 87 #[.val (.long q1), .second, .val (.int p2), .val (.int p3), .val (.int (p2 &&& (7 : Int32))), .val (.int (0 : Int32)), .val (.int (0 : Int32)), .val (.ref b4), .val (.long (6 : Int64)), .second, .unset, .unset, .unset] [(.long ((6 : Int64) + (q1 % (4 : Int64))))])) _
    refine XS.lstore X5.here hx rfl (hb hby at_87) rfl (l' := #[.val (.long q1), .second, .val (.int p2), .val (.int p3), .val (.int (p2 &&& (7 : Int32))), .val (.int (0 : Int32)), .val (.int (0 : Int32)), .val (.ref b4), .val (.long (6 : Int64)), .second, .val (.long ((6 : Int64) + (q1 % (4 : Int64)))), .second, .unset]) rfl ?_
    show Steps p.tables e below (T5.setTop (mkF m 89 #[.val (.long q1), .second, .val (.int p2), .val (.int p3), .val (.int (p2 &&& (7 : Int32))), .val (.int (0 : Int32)), .val (.int (0 : Int32)), .val (.ref b4), .val (.long (6 : Int64)), .second, .val (.long ((6 : Int64) + (q1 % (4 : Int64)))), .second, .unset] [])) _
    refine XS.lload X5.here hx rfl (hb hby at_89) rfl ?_
    show Steps p.tables e below (T5.setTop (mkF m 91 #[.val (.long q1), .second, .val (.int p2), .val (.int p3), .val (.int (p2 &&& (7 : Int32))), .val (.int (0 : Int32)), .val (.int (0 : Int32)), .val (.ref b4), .val (.long (6 : Int64)), .second, .val (.long ((6 : Int64) + (q1 % (4 : Int64)))), .second, .unset] [(.long ((6 : Int64) + (q1 % (4 : Int64))))])) _
    refine XS.lload X5.here hx rfl (hb hby at_91) rfl ?_
    show Steps p.tables e below (T5.setTop (mkF m 93 #[.val (.long q1), .second, .val (.int p2), .val (.int p3), .val (.int (p2 &&& (7 : Int32))), .val (.int (0 : Int32)), .val (.int (0 : Int32)), .val (.ref b4), .val (.long (6 : Int64)), .second, .val (.long ((6 : Int64) + (q1 % (4 : Int64)))), .second, .unset] [(.long (6 : Int64)), (.long ((6 : Int64) + (q1 % (4 : Int64))))])) _
    refine XS.lcmp X5.here hx rfl (hb hby at_93) rfl ?_
    show Steps p.tables e below (T5.setTop (mkF m 94 #[.val (.long q1), .second, .val (.int p2), .val (.int p3), .val (.int (p2 &&& (7 : Int32))), .val (.int (0 : Int32)), .val (.int (0 : Int32)), .val (.ref b4), .val (.long (6 : Int64)), .second, .val (.long ((6 : Int64) + (q1 % (4 : Int64)))), .second, .unset] [(.int (lcmpW ((6 : Int64) + (q1 % (4 : Int64))) (6 : Int64)))])) _
    refine XS.ifYes X5.here hx rfl (pc0 := 94) (pc' := 101) rfl (hb hby at_94) rfl ((if0 _ _).trans (tlt hc94).2.2.1) (by decide) (by decide) ?_
    show Steps p.tables e below (T5.setTop (mkF m 101 #[.val (.long q1), .second, .val (.int p2), .val (.int p3), .val (.int (p2 &&& (7 : Int32))), .val (.int (0 : Int32)), .val (.int (0 : Int32)), .val (.ref b4), .val (.long (6 : Int64)), .second, .val (.long ((6 : Int64) + (q1 % (4 : Int64)))), .second, .unset] [])) _
    refine XS.iconst X5.here hx rfl (hb hby at_101) ?_
    show Steps p.tables e below (T5.setTop (mkF m 102 #[.val (.long q1), .second, .val (.int p2), .val (.int p3), .val (.int (p2 &&& (7 : Int32))), .val (.int (0 : Int32)), .val (.int (0 : Int32)), .val (.ref b4), .val (.long (6 : Int64)), .second, .val (.long ((6 : Int64) + (q1 % (4 : Int64)))), .second, .unset] [(.int (0 : Int32))])) _
    refine XS.istore X5.here hx rfl (hb hby at_102) rfl (l' := #[.val (.long q1), .second, .val (.int p2), .val (.int p3), .val (.int (p2 &&& (7 : Int32))), .val (.int (0 : Int32)), .val (.int (0 : Int32)), .val (.ref b4), .val (.long (6 : Int64)), .second, .val (.long ((6 : Int64) + (q1 % (4 : Int64)))), .second, .val (.int (0 : Int32))]) rfl ?_
    show Steps p.tables e below (T5.setTop (mkF m 104 #[.val (.long q1), .second, .val (.int p2), .val (.int p3), .val (.int (p2 &&& (7 : Int32))), .val (.int (0 : Int32)), .val (.int (0 : Int32)), .val (.ref b4), .val (.long (6 : Int64)), .second, .val (.long ((6 : Int64) + (q1 % (4 : Int64)))), .second, .val (.int (0 : Int32))] [])) _
    refine XS.aload X5.here hx rfl (hb hby at_104) rfl rfl ?_
    show Steps p.tables e below (T5.setTop (mkF m 106 #[.val (.long q1), .second, .val (.int p2), .val (.int p3), .val (.int (p2 &&& (7 : Int32))), .val (.int (0 : Int32)), .val (.int (0 : Int32)), .val (.ref b4), .val (.long (6 : Int64)), .second, .val (.long ((6 : Int64) + (q1 % (4 : Int64)))), .second, .val (.int (0 : Int32))] [(.ref b4)])) _
    refine XS.lload X5.here hx rfl (hb hby at_106) rfl ?_
    show Steps p.tables e below (T5.setTop (mkF m 108 #[.val (.long q1), .second, .val (.int p2), .val (.int p3), .val (.int (p2 &&& (7 : Int32))), .val (.int (0 : Int32)), .val (.int (0 : Int32)), .val (.ref b4), .val (.long (6 : Int64)), .second, .val (.long ((6 : Int64) + (q1 % (4 : Int64)))), .second, .val (.int (0 : Int32))] [(.long ((6 : Int64) + (q1 % (4 : Int64)))), (.ref b4)])) _
    refine st6.trans ?_
    show Steps p.tables e below (T6.setTop (mkF m 111 #[.val (.long q1), .second, .val (.int p2), .val (.int p3), .val (.int (p2 &&& (7 : Int32))), .val (.int (0 : Int32)), .val (.int (0 : Int32)), .val (.ref b4), .val (.long (6 : Int64)), .second, .val (.long ((6 : Int64) + (q1 % (4 : Int64)))), .second, .val (.int (0 : Int32))] [(.int (0 : Int32))])) _
    refine XS.iload X6.here hx rfl (hb hby at_111) rfl ?_
    show Steps p.tables e below (T6.setTop (mkF m 113 #[.val (.long q1), .second, .val (.int p2), .val (.int p3), .val (.int (p2 &&& (7 : Int32))), .val (.int (0 : Int32)), .val (.int (0 : Int32)), .val (.ref b4), .val (.long (6 : Int64)), .second, .val (.long ((6 : Int64) + (q1 % (4 : Int64)))), .second, .val (.int (0 : Int32))] [(.int (0 : Int32)), (.int (0 : Int32))])) _
    refine XS.icmpNo X6.here hx rfl (hb hby at_113) rfl (teq (rfl : (0 : Int32) = (0 : Int32))).2 ?_
    show Steps p.tables e below (T6.setTop (mkF m 116 #[.val (.long q1), .second, .val (.int p2), .val (.int p3), .val (.int (p2 &&& (7 : Int32))), .val (.int (0 : Int32)), .val (.int (0 : Int32)), .val (.ref b4), .val (.long (6 : Int64)), .second, .val (.long ((6 : Int64) + (q1 % (4 : Int64)))), .second, .val (.int (0 : Int32))] [])) _
    refine XS.iconst X6.here hx rfl (hb hby at_116) ?_
    show Steps p.tables e below (T6.setTop (mkF m 117 #[.val (.long q1), .second, .val (.int p2), .val (.int p3), .val (.int (p2 &&& (7 : Int32))), .val (.int (0 : Int32)), .val (.int (0 : Int32)), .val (.ref b4), .val (.long (6 : Int64)), .second, .val (.long ((6 : Int64) + (q1 % (4 : Int64)))), .second, .val (.int (0 : Int32))] [(.int (1 : Int32))])) _
    refine XS.goto X6.here hx rfl (pc0 := 117) (pc' := 121) rfl (hb hby at_117) (by decide) (by decide) ?_
    show Steps p.tables e below (T6.setTop (mkF m 121 #[.val (.long q1), .second, .val (.int p2), .val (.int p3), .val (.int (p2 &&& (7 : Int32))), .val (.int (0 : Int32)), .val (.int (0 : Int32)), .val (.ref b4), .val (.long (6 : Int64)), .second, .val (.long ((6 : Int64) + (q1 % (4 : Int64)))), .second, .val (.int (0 : Int32))] [(.int (1 : Int32))])) _
    exact retN X6 hx (t := .boolean) Bd.returns (by simp) (hb hby at_121) hr
  · show Qz  h0 n0 _ T6.heap _
    rw [hh6]
    exact ⟨rfl, N6⟩
theorem own_zz (p2 : Int32) : ∃ zz : Int32, ((((6 : Int64) <<< ((p2 &&& (7 : Int32)) &&& 0x3f).toInt64) = (6 : Int64) ∧ zz = (8 : Int32)) ∨ (((6 : Int64) <<< ((p2 &&& (7 : Int32)) &&& 0x3f).toInt64) = (12 : Int64) ∧ zz = (16 : Int32)) ∨ (((6 : Int64) <<< ((p2 &&& (7 : Int32)) &&& 0x3f).toInt64) = (24 : Int64) ∧ zz = (32 : Int32)) ∨ (((6 : Int64) <<< ((p2 &&& (7 : Int32)) &&& 0x3f).toInt64) = (48 : Int64) ∧ zz = (64 : Int32)) ∨ (((6 : Int64) <<< ((p2 &&& (7 : Int32)) &&& 0x3f).toInt64) = (96 : Int64) ∧ zz = (128 : Int32)) ∨ (((6 : Int64) <<< ((p2 &&& (7 : Int32)) &&& 0x3f).toInt64) = (192 : Int64) ∧ zz = (256 : Int32)) ∨ (((6 : Int64) <<< ((p2 &&& (7 : Int32)) &&& 0x3f).toInt64) = (384 : Int64) ∧ zz = (512 : Int32)) ∨ (((6 : Int64) <<< ((p2 &&& (7 : Int32)) &&& 0x3f).toInt64) = (768 : Int64) ∧ zz = (1024 : Int32))) ∧ (((zz / (4 : Int32)) * (3 : Int32)).toInt64) = ((6 : Int64) <<< ((p2 &&& (7 : Int32)) &&& 0x3f).toInt64) := by
  have a1 := c_mask p2 7 3 (by decide) (by decide)
  have a2 : (p2 &&& 7).toInt = 0 ∨ (p2 &&& 7).toInt = 1 ∨ (p2 &&& 7).toInt = 2 ∨ (p2 &&& 7).toInt = 3 ∨ (p2 &&& 7).toInt = 4 ∨ (p2 &&& 7).toInt = 5 ∨ (p2 &&& 7).toInt = 6 ∨ (p2 &&& 7).toInt = 7 := by omega
  rcases a2 with h | h | h | h | h | h | h | h
  · have e : (p2 &&& 7) = (0 : Int32) := Int32.toInt_inj.mp h
    rw [e]
    exact ⟨8, by decide, by decide⟩
  · have e : (p2 &&& 7) = (1 : Int32) := Int32.toInt_inj.mp h
    rw [e]
    exact ⟨16, by decide, by decide⟩
  · have e : (p2 &&& 7) = (2 : Int32) := Int32.toInt_inj.mp h
    rw [e]
    exact ⟨32, by decide, by decide⟩
  · have e : (p2 &&& 7) = (3 : Int32) := Int32.toInt_inj.mp h
    rw [e]
    exact ⟨64, by decide, by decide⟩
  · have e : (p2 &&& 7) = (4 : Int32) := Int32.toInt_inj.mp h
    rw [e]
    exact ⟨128, by decide, by decide⟩
  · have e : (p2 &&& 7) = (5 : Int32) := Int32.toInt_inj.mp h
    rw [e]
    exact ⟨256, by decide, by decide⟩
  · have e : (p2 &&& 7) = (6 : Int32) := Int32.toInt_inj.mp h
    rw [e]
    exact ⟨512, by decide, by decide⟩
  · have e : (p2 &&& 7) = (7 : Int32) := Int32.toInt_inj.mp h
    rw [e]
    exact ⟨1024, by decide, by decide⟩
theorem rm0 (l : Launch) (Z : State) (a0 : Array Value) (hw : ∀ d ∈ tables_1, d.before a0 Z = true) (ws : List Jvm.Cond) (q1 : Int64) (p2 : Int32) (p3 : Int32) (h0 : Heap) (n0 : Nat) (Z0 : n0 ≤ h0.size) :
    MetFree l x (head1 (Jvm.Cond.code x code maxLocals ret :: ws) room_1) (fun a U => a = #[(.long q1), (.int p2), (.int p3)] ∧ Z.Warmed39 U.vm ∧ U.heap = h0) (fun _ _ _ _ _ => True) (fun _ U o U' => ∃ v L, o = .returned v ∧ Qz  h0 n0 v U'.heap L ∧ FrameEnd U o U' L room_1.cells room_1.slots) := by
  by_cases g9 : (p3 &&& (2 : Int32)) = (0 : Int32)
  · by_cases g22 : (p3 &&& (1 : Int32)) = (0 : Int32)
    · by_cases k : (0 : Int32) < (lcmpW ((6 : Int64) + (q1 % (4 : Int64))) (6 : Int64))
      · exact rm0_tttttf l Z a0 hw ws q1 p2 p3 h0 n0 Z0 (by decide) g9 g22 (by decide) k
      · exact rm0_ttttff l Z a0 hw ws q1 p2 p3 h0 n0 Z0 (by decide) g9 g22 (by decide) k
    · by_cases k : (0 : Int32) < (lcmpW q1 (6 : Int64))
      · exact rm0_tftftf l Z a0 hw ws q1 p2 p3 h0 n0 Z0 (by decide) g9 g22 (by decide) k
      · exact rm0_tftfff l Z a0 hw ws q1 p2 p3 h0 n0 Z0 (by decide) g9 g22 (by decide) k
  · obtain ⟨zz, hq, hcap⟩ := own_zz p2
    by_cases g22 : (p3 &&& (1 : Int32)) = (0 : Int32)
    · by_cases k : (0 : Int32) < (lcmpW (((6 : Int64) <<< ((p2 &&& (7 : Int32)) &&& 0x3f).toInt64) + (q1 % (4 : Int64))) ((6 : Int64) <<< ((p2 &&& (7 : Int32)) &&& 0x3f).toInt64))
      · exact rm0_ftfttf l Z a0 hw ws q1 p2 p3 zz h0 n0 Z0 hq hcap g9 g22 (by decide) (by decide) k
      · exact rm0_ftftff l Z a0 hw ws q1 p2 p3 zz h0 n0 Z0 hq hcap g9 g22 (by decide) (by decide) k
    · by_cases k : (0 : Int32) < (lcmpW q1 ((6 : Int64) <<< ((p2 &&& (7 : Int32)) &&& 0x3f).toInt64))
      · exact rm0_fffftf l Z a0 hw ws q1 p2 p3 zz h0 n0 Z0 hq hcap g9 g22 (by decide) (by decide) k
      · exact rm0_ffffff l Z a0 hw ws q1 p2 p3 zz h0 n0 Z0 hq hcap g9 g22 (by decide) (by decide) k
set_option maxRecDepth 65536 in
set_option maxHeartbeats 40000000 in
theorem comes_1 {Post : Tables → Env → Array Value → State → Outcome → State → Prop} (hpost : ∀ tb e args s v u, (limb_1_1.after args s (.returned v) u = true ∧ limb_1_2.after args s (.returned v) u = true ∧ True) → FrameEnd s (.returned v) u (Jvm.fieldLocs frame_1_writes args s ++ Jvm.arrayLocs frame_1_arrays args s ++ Jvm.staticLocs frame_1_statics s) 24 4224 → Post tb e args s (.returned v) u) :
    ArmFor flags0 classFile x code maxLocals ret World_1 tables_1 room_1 Calls_1 rest_1 Pre_1 Post := by
  intro l hfl _ _ p e ha hc hk s m args below hf hA hF happ hP
  obtain ⟨hcalls, hrest, hpre⟩ := hP
  obtain ⟨-, -, -, hnamed, -, -, -, hat⟩ := (Spec.applies_iff hf).mp happ
  obtain ⟨hg, hn⟩ := and_e (Cond.before_iff.mp (show (Jvm.Cond.and given_1 narrow_1).before args s = true from hpre))
  obtain ⟨g7, g8⟩ := and_e hg
  obtain ⟨g9, g10⟩ := and_e g8
  obtain ⟨g11, g12⟩ := and_e g10
  obtain ⟨w0, w1, w2, rfl⟩ : ∃ w0 w1 w2 : Value, args = #[w0, w1, w2] := by
    have hs : args.size = 3 := by simpa [Cond.value, given_1] using g7
    obtain ⟨L⟩ := args
    match L, hs with
    | [w0, w1, w2], _ => exact ⟨w0, w1, w2, rfl⟩
  have hw := fun d (hd : d ∈ tables_1) => atoms_spec (ws := Jvm.Cond.code x code maxLocals ret :: tables_1) hat d (List.mem_cons_of_mem _ hd)
  have hfit : Fit s := fun {y c} hc i hi => by
    obtain ⟨ha, rfl⟩ := Array.getElem?_eq_some_iff.mp hc
    have q := List.all_eq_true.mp ((Array.all_eq_true_iff_forall_mem.mp hF) _ (Array.getElem_mem ha)) i (List.mem_range.mpr hi)
    simpa [Array.getElem?_eq_getElem hi] using q
  obtain ⟨i0, ei0⟩ := isL_v g9
  obtain rfl : w0 = (.long i0) := Option.some.inj ei0
  obtain ⟨i1, ei1⟩ := is_v g11
  obtain rfl : w1 = (.int i1) := Option.some.inj ei1
  obtain ⟨i2, ei2⟩ := is_v g12
  obtain rfl : w2 = (.int i2) := Option.some.inj ei2
  obtain ⟨n, o, h1, h2, h3, _, L, rfl, ⟨rfl, N⟩, hq⟩ := rm0 l s _ hw tables_1 i0 i1 i2 s.heap s.heap.size (Nat.le_refl _)  p e ha hc hk s m _ below hf ((Spec.applies_iff_loose hf).mp happ).1 ⟨rfl, State.Warmed39.refl s, rfl⟩ trivial
  refine ⟨n, _, h1, h2, h3, hpost _ _ _ _ _ _ ⟨Cond.after_iff.mpr rfl, Cond.after_iff.mpr (eq_i res_at (Term.int_eval (1)) rfl), trivial⟩ ⟨hq.1, hq.2.1, (hq.2.2.sift fun y hy => Or.inr (N y hy)).mono (by decide) (by decide)⟩⟩
theorem main_1_1 : Claimed_1_1 := comes_1 fun _ _ _ _ _ _ h hF => ⟨h.1, hF⟩
theorem main_1_2 : Claimed_1_2 := comes_1 fun _ _ _ _ _ _ h hF => ⟨h.2.1, hF⟩
end Jvm.Pilot.@@N@@

namespace Jvm.Pilot.@@N@@
open Jvm Jvm.ClassFile Sem Op Lib Jvm.Free Jvm.Stand Jvm.Pilot.@@N@@.Jvm.D
/-! MADE BY PROGRAM (witnessworld.py) out of the Statement's table words and the real class files: 18 classes; the members and pool entries that the words name. The judged class is class 1, her method 1. -/
namespace start1
open Jvm.ClassFile
def u (s : String) : CpInfo := .utf8 (stringToUtf16 s)
/-- a pool by its gaps: so many unusable entries, then the entry; so many at the end -/
def gap : Nat → List CpInfo → List CpInfo
  | 0, r => r
  | n + 1, r => .unusable :: gap n r
def poolList (es : List (Nat × CpInfo)) (last : Nat) : List CpInfo := es.foldr (fun e r => gap e.1 (e.2 :: r)) (gap last [])
def pool (es : List (Nat × CpInfo)) (last : Nat) : Array CpInfo := ⟨poolList es last⟩
def fileOf (pool : Array CpInfo) (this : Nat) (attrs : Array Attribute := #[]) (ms : Array MethodInfo := #[]) (fl : Nat := 33) (sup : Nat := 0) (ifs : Array Nat := #[]) (fds : Array FieldInfo := #[]) : ClassFile where
  minorVersion := 0
  majorVersion := 65
  constantPool := pool
  accessFlags := fl
  thisClass := this
  superClass := sup
  interfaces := ifs
  fields := fds
  methods := ms
  attributes := attrs
def plain (name : String) (sup : Option ClassId) : Class where
  name := name
  kind := .ordinary
  loader := none
  accessFlags := 33
  super := sup
  interfaces := #[]
  cf := none
  fields := #[]
  methods := #[]
  instanceTypes := #[]
  staticTypes := #[]
  resolved := #[]
  callSites := []
  init := .initialized
  statics := none
  mirror := none

def pool0 : Array CpInfo := pool [(5, u "<init>"), (0, u "()V"), (1, .class_ 10), (1, u "java/lang/Object")] 113

def k0c0 : Code := { maxStack := 0, maxLocals := 1, code := object_method_1_code, exceptionTable := #[], attributes := #[] }
def k0m0 : Method := { name := "<init>", desc := "()V", sig := { parameters := [], returnType := none }, accessFlags := 1, code := some k0c0 }
/-- java/lang/Object -/
def k0 : Class := { plain "java/lang/Object" none with
  accessFlags := 33
  interfaces := #[]
  cf := some (fileOf pool0 8 #[] #[{ accessFlags := 1, nameIndex := 5, descriptorIndex := 6, attributes := #[] }] 33 0 #[] #[])
  fields := #[]
  methods := #[k0m0]
  instanceTypes := #[]
  staticTypes := #[]
  resolved := Array.replicate 124 none
  statics := none }

def pool1 : Array CpInfo := pool [(2, .class_ 4), (0, .nameAndType 5 6), (0, u "java/lang/Object"), (0, u "<init>"), (0, u "()V"), (0, .class_ 8), (0, u "com/example/wheredb/wheredb/storage/MemorySet"), (0, .methodref 7 3), (0, .long 6), (1, .methodref 7 13), (0, .nameAndType 14 15), (0, u "reserve"), (0, u "(J)V"), (0, .long 4), (1, .methodref 7 19), (0, .nameAndType 20 21), (0, u "hasRoomFor"), (0, u "(J)Z"), (0, .class_ 23), (0, u "com/example/wheredb/wheredb/storage/MemorySetHasRoomForPinLaw"), (2, u "law"), (0, u "(JII)Z")] 3

def k1m0 : Method := { name := "<init>", desc := "()V", sig := { parameters := [], returnType := none }, accessFlags := 1, code := none }
def k1c1 : Code := { maxStack := 6, maxLocals := 13, code := code, exceptionTable := #[], attributes := #[] }
def k1m1 : Method := { name := "law", desc := "(JII)Z", sig := { parameters := [.long, .int, .int], returnType := some .boolean }, accessFlags := 9, code := some k1c1 }
/-- com/example/wheredb/wheredb/storage/MemorySetHasRoomForPinLaw -/
def k1 : Class := { plain "com/example/wheredb/wheredb/storage/MemorySetHasRoomForPinLaw" (some 0) with
  accessFlags := 49
  interfaces := #[]
  cf := some (fileOf pool1 22 #[] #[{ accessFlags := 1, nameIndex := 5, descriptorIndex := 6, attributes := #[] }, { accessFlags := 9, nameIndex := 26, descriptorIndex := 27, attributes := #[] }] 49 2 #[] #[])
  fields := #[]
  methods := #[k1m0, k1m1]
  instanceTypes := #[]
  staticTypes := #[]
  resolved := Array.replicate 31 none
  statics := none }

def pool2 : Array CpInfo := pool [(1, .class_ 2), (0, u "com/example/wheredb/wheredb/storage/MemorySet"), (0, .methodref 4 5), (0, .class_ 6), (0, .nameAndType 7 8), (0, u "java/lang/Object"), (0, u "<init>"), (0, u "()V"), (0, .class_ 10), (0, u "com/example/wheredb/wheredb/storage/MemorySet$Chunk"), (0, .fieldref 1 12), (0, .nameAndType 13 14), (0, u "chunks"), (0, u "[Lcom/example/wheredb/wheredb/storage/MemorySet$Chunk;"), (0, .fieldref 1 16), (0, .nameAndType 17 18), (0, u "lastCells"), (0, u "[J"), (0, .fieldref 1 20), (0, .nameAndType 21 22), (0, u "slotHashes"), (0, u "[I"), (0, .fieldref 1 24), (0, .nameAndType 25 18), (0, u "slotCells"), (0, .class_ 27), (0, u "java/lang/Integer"), (0, .methodref 26 29), (0, .nameAndType 30 31), (0, u "numberOfTrailingZeros"), (0, u "(I)I"), (0, .fieldref 1 33), (0, .nameAndType 34 35), (0, u "slotShift"), (0, u "I"), (2, u "size"), (13, .class_ 54), (1, u "com/example/wheredb/wheredb/storage/MemorySet$Spot"), (9, .long 805306368), (8, .methodref 1 74), (0, .nameAndType 75 76), (0, u "growTable"), (0, u "(I)V"), (6, u "hasRoomFor"), (0, u "(J)Z"), (11, u "chunkCount"), (43, .class_ 141), (0, u "com/example/wheredb/wheredb/storage/MemorySet$Run"), (25, u "reserve"), (0, u "(J)V"), (69, u "MOST_IN_CHUNK"), (2, u "APPENDED_PER_CHUNK"), (1, u "APPENDED_NAME_ROOM"), (1, u "FEWEST_IN_CHUNK"), (1, u "FIRST_SLOTS"), (1, u "MOST_SLOTS")] 25

def k2c0 : Code := { maxStack := 3, maxLocals := 1, code := prog_17_method_1_code, exceptionTable := #[], attributes := #[] }
def k2m0 : Method := { name := "<init>", desc := "()V", sig := { parameters := [], returnType := none }, accessFlags := 0, code := some k2c0 }
def k2c1 : Code := { maxStack := 4, maxLocals := 3, code := prog_17_method_4_code, exceptionTable := #[], attributes := #[] }
def k2m1 : Method := { name := "hasRoomFor", desc := "(J)Z", sig := { parameters := [.long], returnType := some .boolean }, accessFlags := 0, code := some k2c1 }
def k2c2 : Code := { maxStack := 4, maxLocals := 4, code := prog_17_method_5_code, exceptionTable := #[], attributes := #[] }
def k2m2 : Method := { name := "reserve", desc := "(J)V", sig := { parameters := [.long], returnType := none }, accessFlags := 0, code := some k2c2 }
def k2c3 : Code := { maxStack := 4, maxLocals := 7, code := prog_17_method_20_code, exceptionTable := #[], attributes := #[] }
def k2m3 : Method := { name := "growTable", desc := "(I)V", sig := { parameters := [.int], returnType := none }, accessFlags := 2, code := some k2c3 }
/-- com/example/wheredb/wheredb/storage/MemorySet -/
def k2 : Class := { plain "com/example/wheredb/wheredb/storage/MemorySet" (some 0) with
  accessFlags := 48
  interfaces := #[]
  cf := some (fileOf pool2 1 #[.nestMembers #[9, 140, 52]] #[{ accessFlags := 0, nameIndex := 7, descriptorIndex := 8, attributes := #[] }, { accessFlags := 0, nameIndex := 83, descriptorIndex := 84, attributes := #[] }, { accessFlags := 0, nameIndex := 167, descriptorIndex := 168, attributes := #[] }, { accessFlags := 2, nameIndex := 75, descriptorIndex := 76, attributes := #[] }] 48 4 #[] #[{ accessFlags := 26, nameIndex := 238, descriptorIndex := 35, attributes := #[] }, { accessFlags := 26, nameIndex := 241, descriptorIndex := 35, attributes := #[] }, { accessFlags := 26, nameIndex := 243, descriptorIndex := 35, attributes := #[] }, { accessFlags := 26, nameIndex := 245, descriptorIndex := 35, attributes := #[] }, { accessFlags := 26, nameIndex := 247, descriptorIndex := 35, attributes := #[] }, { accessFlags := 26, nameIndex := 249, descriptorIndex := 35, attributes := #[] }, { accessFlags := 2, nameIndex := 13, descriptorIndex := 14, attributes := #[] }, { accessFlags := 2, nameIndex := 17, descriptorIndex := 18, attributes := #[] }, { accessFlags := 2, nameIndex := 96, descriptorIndex := 35, attributes := #[] }, { accessFlags := 2, nameIndex := 38, descriptorIndex := 35, attributes := #[] }, { accessFlags := 2, nameIndex := 21, descriptorIndex := 22, attributes := #[] }, { accessFlags := 2, nameIndex := 25, descriptorIndex := 18, attributes := #[] }, { accessFlags := 2, nameIndex := 34, descriptorIndex := 35, attributes := #[] }])
  fields := #[{ name := "MOST_IN_CHUNK", type := .int, accessFlags := 26, slot := 0, constantValue := 0 }, { name := "APPENDED_PER_CHUNK", type := .int, accessFlags := 26, slot := 1, constantValue := 0 }, { name := "APPENDED_NAME_ROOM", type := .int, accessFlags := 26, slot := 2, constantValue := 0 }, { name := "FEWEST_IN_CHUNK", type := .int, accessFlags := 26, slot := 3, constantValue := 0 }, { name := "FIRST_SLOTS", type := .int, accessFlags := 26, slot := 4, constantValue := 0 }, { name := "MOST_SLOTS", type := .int, accessFlags := 26, slot := 5, constantValue := 0 }, { name := "chunks", type := (.array (.object "com/example/wheredb/wheredb/storage/MemorySet$Chunk")), accessFlags := 2, slot := 0, constantValue := 0 }, { name := "lastCells", type := (.array .long), accessFlags := 2, slot := 1, constantValue := 0 }, { name := "chunkCount", type := .int, accessFlags := 2, slot := 2, constantValue := 0 }, { name := "size", type := .int, accessFlags := 2, slot := 3, constantValue := 0 }, { name := "slotHashes", type := (.array .int), accessFlags := 2, slot := 4, constantValue := 0 }, { name := "slotCells", type := (.array .long), accessFlags := 2, slot := 5, constantValue := 0 }, { name := "slotShift", type := .int, accessFlags := 2, slot := 6, constantValue := 0 }]
  methods := #[k2m0, k2m1, k2m2, k2m3]
  instanceTypes := #[(.array (.object "com/example/wheredb/wheredb/storage/MemorySet$Chunk")), (.array .long), .int, .int, (.array .int), (.array .long), .int]
  staticTypes := #[.int, .int, .int, .int, .int, .int]
  resolved := Array.replicate 275 none
  statics := none }

def pool3 : Array CpInfo := pool [(1, .class_ 2), (0, u "com/example/wheredb/wheredb/storage/MemorySet"), (1, .class_ 6), (1, u "java/lang/Object"), (3, .class_ 12), (1, u "com/example/wheredb/wheredb/storage/MemorySet$Chunk"), (0, u "cells"), (0, u "[J"), (2, u "longitudes"), (0, u "[D"), (2, u "latitudes"), (2, u "nameEnds"), (0, u "[I"), (2, u "names"), (0, u "[B"), (17, u "size"), (0, u "I")] 106

/-- com/example/wheredb/wheredb/storage/MemorySet$Chunk -/
def k3 : Class := { plain "com/example/wheredb/wheredb/storage/MemorySet$Chunk" (some 0) with
  accessFlags := 48
  interfaces := #[]
  cf := some (fileOf pool3 10 #[.nestHost 1] #[] 48 4 #[] #[{ accessFlags := 2, nameIndex := 47, descriptorIndex := 48, attributes := #[] }, { accessFlags := 2, nameIndex := 13, descriptorIndex := 14, attributes := #[] }, { accessFlags := 2, nameIndex := 17, descriptorIndex := 18, attributes := #[] }, { accessFlags := 2, nameIndex := 21, descriptorIndex := 18, attributes := #[] }, { accessFlags := 2, nameIndex := 24, descriptorIndex := 25, attributes := #[] }, { accessFlags := 2, nameIndex := 28, descriptorIndex := 29, attributes := #[] }])
  fields := #[{ name := "size", type := .int, accessFlags := 2, slot := 0, constantValue := 0 }, { name := "cells", type := (.array .long), accessFlags := 2, slot := 1, constantValue := 0 }, { name := "longitudes", type := (.array .double), accessFlags := 2, slot := 2, constantValue := 0 }, { name := "latitudes", type := (.array .double), accessFlags := 2, slot := 3, constantValue := 0 }, { name := "nameEnds", type := (.array .int), accessFlags := 2, slot := 4, constantValue := 0 }, { name := "names", type := (.array .byte), accessFlags := 2, slot := 5, constantValue := 0 }]
  methods := #[]
  instanceTypes := #[.int, (.array .long), (.array .double), (.array .double), (.array .int), (.array .byte)]
  staticTypes := #[]
  resolved := Array.replicate 155 none
  statics := none }

def pool4 : Array CpInfo := pool [(1, .class_ 2), (0, u "java/io/Serializable"), (0, .class_ 4), (0, u "java/lang/Object")] 2

/-- java/io/Serializable -/
def k4 : Class := { plain "java/io/Serializable" (some 0) with
  accessFlags := 1537
  interfaces := #[]
  cf := some (fileOf pool4 1 #[] #[] 1537 3 #[] #[])
  fields := #[]
  methods := #[]
  instanceTypes := #[]
  staticTypes := #[]
  resolved := Array.replicate 7 none
  statics := none }

def pool5 : Array CpInfo := pool [(2, .class_ 4), (1, u "java/lang/Object"), (0, u "<init>"), (0, u "()V"), (1, .class_ 10), (1, u "java/lang/Number"), (2, .class_ 14), (0, u "java/io/Serializable"), (0, u "serialVersionUID"), (0, u "J")] 20

def k5m0 : Method := { name := "<init>", desc := "()V", sig := { parameters := [], returnType := none }, accessFlags := 1, code := none }
/-- java/lang/Number -/
def k5 : Class := { plain "java/lang/Number" (some 0) with
  accessFlags := 1057
  interfaces := #[4]
  cf := some (fileOf pool5 8 #[] #[{ accessFlags := 1, nameIndex := 5, descriptorIndex := 6, attributes := #[] }] 1057 2 #[13] #[{ accessFlags := 26, nameIndex := 15, descriptorIndex := 16, attributes := #[] }])
  fields := #[{ name := "serialVersionUID", type := .long, accessFlags := 26, slot := 0, constantValue := 0 }]
  methods := #[k5m0]
  instanceTypes := #[]
  staticTypes := #[.long]
  resolved := Array.replicate 37 none
  statics := none }

def pool6 : Array CpInfo := pool [(1, .class_ 2), (0, u "java/lang/Comparable"), (0, .class_ 4), (0, u "java/lang/Object")] 7

/-- java/lang/Comparable -/
def k6 : Class := { plain "java/lang/Comparable" (some 0) with
  accessFlags := 1537
  interfaces := #[]
  cf := some (fileOf pool6 1 #[] #[] 1537 3 #[] #[])
  fields := #[]
  methods := #[]
  instanceTypes := #[]
  staticTypes := #[]
  resolved := Array.replicate 12 none
  statics := none }

def pool7 : Array CpInfo := pool [(1, .class_ 2), (0, u "java/lang/constant/Constable"), (0, .class_ 4), (0, u "java/lang/Object")] 6

/-- java/lang/constant/Constable -/
def k7 : Class := { plain "java/lang/constant/Constable" (some 0) with
  accessFlags := 1537
  interfaces := #[]
  cf := some (fileOf pool7 1 #[] #[] 1537 3 #[] #[])
  fields := #[]
  methods := #[]
  instanceTypes := #[]
  staticTypes := #[]
  resolved := Array.replicate 11 none
  statics := none }

def pool8 : Array CpInfo := pool [(1, .class_ 2), (0, u "java/lang/constant/ConstantDesc"), (0, .class_ 4), (0, u "java/lang/Object")] 32

/-- java/lang/constant/ConstantDesc -/
def k8 : Class := { plain "java/lang/constant/ConstantDesc" (some 0) with
  accessFlags := 1537
  interfaces := #[]
  cf := some (fileOf pool8 1 #[] #[] 1537 3 #[] #[])
  fields := #[]
  methods := #[]
  instanceTypes := #[]
  staticTypes := #[]
  resolved := Array.replicate 37 none
  statics := none }

def pool9 : Array CpInfo := pool [(1, .class_ 2), (0, u "java/lang/Integer"), (16, u "digits"), (0, u "[C"), (33, u "(I)I"), (30, u "DigitOnes"), (0, u "[B"), (2, u "DigitTens"), (99, .class_ 190), (0, u "java/lang/Integer$IntegerCache"), (3, u "I"), (8, .class_ 204), (0, u "java/lang/Number"), (2, u "value"), (56, .integer 65536), (37, u "TYPE"), (0, u "Ljava/lang/Class;"), (0, .class_ 305), (0, u "java/lang/Comparable"), (0, .class_ 307), (0, u "java/lang/constant/Constable"), (0, .class_ 309), (0, u "java/lang/constant/ConstantDesc"), (0, u "MIN_VALUE"), (1, u "MAX_VALUE"), (3, u "SIZE"), (1, u "BYTES"), (1, u "serialVersionUID"), (0, u "J"), (84, u "numberOfTrailingZeros")] 46

def k9c0 : Code := { maxStack := 3, maxLocals := 2, code := jdk_33_method_48_code, exceptionTable := #[], attributes := #[] }
def k9m0 : Method := { name := "numberOfTrailingZeros", desc := "(I)I", sig := { parameters := [.int], returnType := some .int }, accessFlags := 9, code := some k9c0 }
/-- java/lang/Integer -/
def k9 : Class := { plain "java/lang/Integer" (some 5) with
  accessFlags := 49
  interfaces := #[6, 7, 8]
  cf := some (fileOf pool9 1 #[.nestMembers #[189]] #[{ accessFlags := 9, nameIndex := 406, descriptorIndex := 54, attributes := #[] }] 49 203 #[304, 306, 308] #[{ accessFlags := 25, nameIndex := 310, descriptorIndex := 194, attributes := #[] }, { accessFlags := 25, nameIndex := 312, descriptorIndex := 194, attributes := #[] }, { accessFlags := 25, nameIndex := 302, descriptorIndex := 303, attributes := #[] }, { accessFlags := 24, nameIndex := 19, descriptorIndex := 20, attributes := #[] }, { accessFlags := 24, nameIndex := 89, descriptorIndex := 86, attributes := #[] }, { accessFlags := 24, nameIndex := 85, descriptorIndex := 86, attributes := #[] }, { accessFlags := 18, nameIndex := 207, descriptorIndex := 194, attributes := #[] }, { accessFlags := 25, nameIndex := 316, descriptorIndex := 194, attributes := #[] }, { accessFlags := 25, nameIndex := 318, descriptorIndex := 194, attributes := #[] }, { accessFlags := 26, nameIndex := 320, descriptorIndex := 321, attributes := #[] }])
  fields := #[{ name := "MIN_VALUE", type := .int, accessFlags := 25, slot := 0, constantValue := 0 }, { name := "MAX_VALUE", type := .int, accessFlags := 25, slot := 1, constantValue := 0 }, { name := "TYPE", type := (.object "java/lang/Class"), accessFlags := 25, slot := 2, constantValue := 0 }, { name := "digits", type := (.array .char), accessFlags := 24, slot := 3, constantValue := 0 }, { name := "DigitTens", type := (.array .byte), accessFlags := 24, slot := 4, constantValue := 0 }, { name := "DigitOnes", type := (.array .byte), accessFlags := 24, slot := 5, constantValue := 0 }, { name := "value", type := .int, accessFlags := 18, slot := 0, constantValue := 0 }, { name := "SIZE", type := .int, accessFlags := 25, slot := 6, constantValue := 0 }, { name := "BYTES", type := .int, accessFlags := 25, slot := 7, constantValue := 0 }, { name := "serialVersionUID", type := .long, accessFlags := 26, slot := 8, constantValue := 0 }]
  methods := #[k9m0]
  instanceTypes := #[.int]
  staticTypes := #[.int, .int, (.object "java/lang/Class"), (.array .char), (.array .byte), (.array .byte), .int, .int, .long]
  resolved := Array.replicate 453 none
  statics := none }

def pool10 : Array CpInfo := pool [(1, u "java/lang/Cloneable"), (0, .class_ 1), (0, u "java/lang/Object"), (0, .class_ 3)] 3

/-- java/lang/Cloneable -/
def k10 : Class := { plain "java/lang/Cloneable" (some 0) with
  accessFlags := 1537
  interfaces := #[]
  cf := some (fileOf pool10 2 #[] #[] 1537 4 #[] #[])
  fields := #[]
  methods := #[]
  instanceTypes := #[]
  staticTypes := #[]
  resolved := Array.replicate 8 none
  statics := none }

/-- the primitive byte -/
def k11 : Class := { plain "byte" none with kind := .primitive 'B', accessFlags := 0x411 }
/-- [B -/
def k12 : Class := { plain "[B" (some 0) with kind := .array 11 .byte, interfaces := #[10, 4], accessFlags := 1041 }

/-- the primitive int -/
def k13 : Class := { plain "int" none with kind := .primitive 'I', accessFlags := 0x411 }
/-- [I -/
def k14 : Class := { plain "[I" (some 0) with kind := .array 13 .int, interfaces := #[10, 4], accessFlags := 1041 }

/-- the primitive long -/
def k15 : Class := { plain "long" none with kind := .primitive 'J', accessFlags := 0x411 }
/-- [J -/
def k16 : Class := { plain "[J" (some 0) with kind := .array 15 .long, interfaces := #[10, 4], accessFlags := 1041 }

/-- [Lcom/example/wheredb/wheredb/storage/MemorySet$Chunk; -/
def k17 : Class := { plain "[Lcom/example/wheredb/wheredb/storage/MemorySet$Chunk;" (some 0) with kind := .array 3 (.object "com/example/wheredb/wheredb/storage/MemorySet$Chunk"), interfaces := #[10, 4], accessFlags := 1041 }

def heap : Heap := #[]
def classes : Array Class := #[k0, k1, k2, k3, k4, k5, k6, k7, k8, k9, k10, k11, k12, k13, k14, k15, k16, k17]
def interned : List (Array UInt16 × Addr) := []
def slotsUsed : Nat := 0
def theMethod : MethodId := ⟨1, 1⟩
def args0 : Array Value := #[.long 7, .int 2, .int 3]
def aboutOver (below : List Frame) : State where
  vm := { classes := classes, interned := interned.toArray }
  heap := heap
  slotsUsed := slotsUsed
  threads := #[{ frames := .invoking theMethod args0 :: below }]
def below0 : List Frame := [.native { method := ⟨0, 0⟩, args := #[] }]
def about1 : State := aboutOver below0
def p0 : Program := .bare "" "" ""
def e0 : Env := launch0.env 0 0 0
theorem w_frames : about1.frames = Frame.invoking theMethod args0 :: below0 := rfl
set_option maxRecDepth 65536 in
theorem w_args : argsFit about1.vm theMethod args0 = true := by decide +kernel
set_option maxRecDepth 65536 in
theorem w_heap : heapFits about1 = true := by decide +kernel
set_option maxRecDepth 65536 in
theorem w_runnable : about1.curStatus? = some .runnable := by decide +kernel
set_option maxRecDepth 65536 in
theorem w_alone : about1.alone = true := by decide +kernel
set_option maxRecDepth 65536 in
theorem w_named : about1.methodNamed? x = some theMethod := by decide +kernel
set_option maxRecDepth 65536 in
theorem w_hears : about1.hears theMethod below0 = true := by decide +kernel
set_option maxRecDepth 65536 in
theorem w_ripe : about1.ripe theMethod args0 below0 = true := by decide +kernel
theorem w_running : about1.status = .running := rfl
set_option maxRecDepth 65536 in
theorem w_room : about1.hasRoom e0.platform room_1 = true :=
  launch0.hasRoom_least _ room_1 (by decide +kernel) (by decide +kernel) (by decide +kernel) (by decide +kernel) (by decide +kernel) (by decide +kernel)
theorem allAtoms_all (ts : List Jvm.Cond) (a : Array Jvm.Value) (st : Jvm.State) : (allAtoms ts).before a st = ts.all (fun c => c.before a st) := by
  induction ts with
  | nil => rfl
  | cons c t ih =>
    show (Jvm.Cond.and c (allAtoms t)).before a st = _
    rw [Jvm.Cond.before_and, ih, List.all_cons]
def words1 : List Jvm.Cond := Jvm.Cond.code x code maxLocals ret :: tables_1
/-- a 'code' word, met by the world's own term for the bytes: nothing is compared byte by byte -/
theorem code_word {y : MethodName} {bytes : ByteArray} {mx : Nat} {rt : Option FieldType} {a : Array Value} {s : State} {m : MethodId} {meth : Method} {c : Code} (h1 : s.methodNamed? y = some m) (h2 : s.vm.method? m = some meth) (h3 : meth.code = some c) (h4 : c.code = bytes)
    (h5 : (c.maxLocals == mx && c.exceptionTable.isEmpty && decide (c.maxStack ≤ mostOperands) && decide (meth.sig.returnType = rt) && !meth.locks && decide (parseMethodDescriptor y.desc = some meth.sig)) = true) : (Jvm.Cond.code y bytes mx rt).before a s = true := by
  simp only [Bool.and_eq_true, beq_iff_eq, Bool.not_eq_true', decide_eq_true_eq] at h5
  obtain ⟨⟨⟨⟨⟨g1, g2⟩, g3⟩, g4⟩, g5⟩, g6⟩ := h5
  simp [Cond.before, Cond.holds, Cond.value, h1, h2, h3, h4, g1, g2, g3, g4, g5, g6]
def isCode : Jvm.Cond → Bool
  | .code _ _ _ _ => true
  | _ => false
theorem all_split {L : List Jvm.Cond} {P : Jvm.Cond → Bool} (h1 : L.all (fun c => isCode c || P c) = true) (h2 : ∀ c ∈ L.filter isCode, P c = true) : L.all P = true := by
  refine List.all_eq_true.mpr fun c hc => ?_
  have h := List.all_eq_true.mp h1 c hc
  rcases Bool.eq_false_or_eq_true (isCode c) with hi | hi
  · exact h2 c (List.mem_filter.mpr ⟨hc, hi⟩)
  · simpa [hi] using h
set_option maxRecDepth 65536 in
theorem w_c0 : (Jvm.Cond.code x code maxLocals ret).before args0 about1 = true := code_word (m := ⟨1, 1⟩) (meth := k1m1) (c := k1c1) (by decide +kernel) rfl rfl rfl (by decide +kernel)
set_option maxRecDepth 65536 in
theorem w_c1 : (Jvm.Cond.code ({ cls := "com/example/wheredb/wheredb/storage/MemorySet", name := "<init>", desc := "()V" } : Jvm.MethodName) prog_17_method_1_code (1 : Nat) (Option.none : Option Jvm.ClassFile.FieldType)).before args0 about1 = true := code_word (m := ⟨2, 0⟩) (meth := k2m0) (c := k2c0) (by decide +kernel) rfl rfl rfl (by decide +kernel)
set_option maxRecDepth 65536 in
theorem w_c2 : (Jvm.Cond.code ({ cls := "java/lang/Object", name := "<init>", desc := "()V" } : Jvm.MethodName) object_method_1_code (1 : Nat) (Option.none : Option Jvm.ClassFile.FieldType)).before args0 about1 = true := code_word (m := ⟨0, 0⟩) (meth := k0m0) (c := k0c0) (by decide +kernel) rfl rfl rfl (by decide +kernel)
set_option maxRecDepth 65536 in
theorem w_c3 : (Jvm.Cond.code ({ cls := "java/lang/Integer", name := "numberOfTrailingZeros", desc := "(I)I" } : Jvm.MethodName) jdk_33_method_48_code (2 : Nat) (Option.some Jvm.ClassFile.FieldType.int)).before args0 about1 = true := code_word (m := ⟨9, 0⟩) (meth := k9m0) (c := k9c0) (by decide +kernel) rfl rfl rfl (by decide +kernel)
set_option maxRecDepth 65536 in
theorem w_c4 : (Jvm.Cond.code ({ cls := "com/example/wheredb/wheredb/storage/MemorySet", name := "hasRoomFor", desc := "(J)Z" } : Jvm.MethodName) prog_17_method_4_code (3 : Nat) (Option.some Jvm.ClassFile.FieldType.boolean)).before args0 about1 = true := code_word (m := ⟨2, 1⟩) (meth := k2m1) (c := k2c1) (by decide +kernel) rfl rfl rfl (by decide +kernel)
set_option maxRecDepth 65536 in
theorem w_c5 : (Jvm.Cond.code ({ cls := "com/example/wheredb/wheredb/storage/MemorySet", name := "reserve", desc := "(J)V" } : Jvm.MethodName) prog_17_method_5_code (4 : Nat) (Option.none : Option Jvm.ClassFile.FieldType)).before args0 about1 = true := code_word (m := ⟨2, 2⟩) (meth := k2m2) (c := k2c2) (by decide +kernel) rfl rfl rfl (by decide +kernel)
set_option maxRecDepth 65536 in
theorem w_c6 : (Jvm.Cond.code ({ cls := "com/example/wheredb/wheredb/storage/MemorySet", name := "growTable", desc := "(I)V" } : Jvm.MethodName) prog_17_method_20_code (7 : Nat) (Option.none : Option Jvm.ClassFile.FieldType)).before args0 about1 = true := code_word (m := ⟨2, 3⟩) (meth := k2m3) (c := k2c3) (by decide +kernel) rfl rfl rfl (by decide +kernel)
def codes1 : List Jvm.Cond := [Jvm.Cond.code x code maxLocals ret, Jvm.Cond.code ({ cls := "com/example/wheredb/wheredb/storage/MemorySet", name := "<init>", desc := "()V" } : Jvm.MethodName) prog_17_method_1_code (1 : Nat) (Option.none : Option Jvm.ClassFile.FieldType), Jvm.Cond.code ({ cls := "java/lang/Object", name := "<init>", desc := "()V" } : Jvm.MethodName) object_method_1_code (1 : Nat) (Option.none : Option Jvm.ClassFile.FieldType), Jvm.Cond.code ({ cls := "java/lang/Integer", name := "numberOfTrailingZeros", desc := "(I)I" } : Jvm.MethodName) jdk_33_method_48_code (2 : Nat) (Option.some Jvm.ClassFile.FieldType.int), Jvm.Cond.code ({ cls := "com/example/wheredb/wheredb/storage/MemorySet", name := "hasRoomFor", desc := "(J)Z" } : Jvm.MethodName) prog_17_method_4_code (3 : Nat) (Option.some Jvm.ClassFile.FieldType.boolean), Jvm.Cond.code ({ cls := "com/example/wheredb/wheredb/storage/MemorySet", name := "reserve", desc := "(J)V" } : Jvm.MethodName) prog_17_method_5_code (4 : Nat) (Option.none : Option Jvm.ClassFile.FieldType), Jvm.Cond.code ({ cls := "com/example/wheredb/wheredb/storage/MemorySet", name := "growTable", desc := "(I)V" } : Jvm.MethodName) prog_17_method_20_code (7 : Nat) (Option.none : Option Jvm.ClassFile.FieldType)]
set_option maxRecDepth 65536 in
theorem codes_eq : words1.filter isCode = codes1 := rfl
theorem w_codes : ∀ c ∈ words1.filter isCode, c.before args0 about1 = true := by
  rw [codes_eq]
  intro c hc
  simp only [codes1, List.mem_cons, List.not_mem_nil, or_false] at hc
  rcases hc with rfl | rfl | rfl | rfl | rfl | rfl | rfl
  · exact w_c0
  · exact w_c1
  · exact w_c2
  · exact w_c3
  · exact w_c4
  · exact w_c5
  · exact w_c6
set_option maxRecDepth 65536 in
theorem w_t1 : (words1.take 24).all (fun c => isCode c || c.before args0 about1) = true := by decide +kernel
set_option maxRecDepth 65536 in
theorem w_t2 : (words1.drop 24).all (fun c => isCode c || c.before args0 about1) = true := by decide +kernel
theorem w_tables : (allAtoms (Jvm.Cond.code x code maxLocals ret :: tables_1)).before args0 about1 = true := by
  rw [allAtoms_all]
  show words1.all (fun c => c.before args0 about1) = true
  refine all_split ?_ w_codes
  rw [← List.take_append_drop 24 words1, List.all_append, w_t1, w_t2]
  rfl
set_option maxRecDepth 65536 in
theorem w_case : (Jvm.Cond.and given_1 narrow_1).before args0 about1 = true := by decide +kernel
theorem w_applies : (headSpec (Jvm.Cond.code x code maxLocals ret :: tables_1) room_1).applies x e0.platform about1 = true :=
  (Spec.applies_iff w_frames).mpr ⟨w_running, w_runnable, w_alone, w_named, w_hears, w_ripe, w_room, w_tables⟩
theorem atStart : AtStart classFile x code maxLocals ret World_1 tables_1 room_1 Calls_1 rest_1 Pre_1 launch0 p0 e0 about1 theMethod args0 below0 :=
  ⟨lists_1, trivial, launch0.admits_env _ _ _, launch0.least_env, fairChoices_fair.cas, fairChoices_fair.clock, w_frames, w_args, w_heap, w_applies, trivial, trivial, w_case⟩
end start1
theorem witness_1 : WitnessClaimed_1 := ⟨start1.p0, start1.e0, start1.about1, start1.theMethod, start1.args0, start1.below0, start1.atStart⟩
end Jvm.Pilot.@@N@@
