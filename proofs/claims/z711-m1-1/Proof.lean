import JvmDerived
import JvmDerived.Pilot.@@N@@Statement
import JvmDerived.Pilot.@@N@@Code
set_option linter.unusedVariables false
set_option linter.unusedSimpArgs false
namespace Jvm.Pilot.@@N@@
open Jvm Jvm.ClassFile Sem Op Lib Jvm.Free Jvm.Stand Jvm.LawKit Jvm.RoadKit Bundle Jvm.Pilot.@@N@@.Jvm.D
def own_Go (tb : Tables) (e : Env) (below : List Frame) (P : State → Outcome → Prop) (A : State) : Prop := ∃ s₂ o, Steps tb e below A s₂ ∧ P s₂ o
theorem own_in {tb : Tables} {e : Env} {below : List Frame} {P : State → Outcome → Prop} {A : State} (h : own_Go tb e below P A) : ∃ s₂ o, Steps tb e below A s₂ ∧ P s₂ o := h
theorem own_st {tb : Tables} {e : Env} {below : List Frame} {P : State → Outcome → Prop} {A B : State} (h : ∀ t, Steps tb e below B t → Steps tb e below A t) (k : own_Go tb e below P B) : own_Go tb e below P A := by
  obtain ⟨s₂, o, h1, h2⟩ := k
  exact ⟨s₂, o, h _ h1, h2⟩
theorem own_tr {tb : Tables} {e : Env} {below : List Frame} {P : State → Outcome → Prop} {A B : State} (h : Steps tb e below A B) (k : own_Go tb e below P B) : own_Go tb e below P A := by
  obtain ⟨s₂, o, h1, h2⟩ := k
  exact ⟨s₂, o, h.trans h1, h2⟩
theorem own_out {tb : Tables} {e : Env} {below : List Frame} {P : State → Outcome → Prop} {A B : State} {o : Outcome} (h : Steps tb e below A B) (k : P B o) : own_Go tb e below P A := ⟨B, o, h, k⟩
theorem own_join {ι : Type} {tb : Tables} {e : Env} {below : List Frame} {P : State → Outcome → Prop} {A : State} (B : ι → State) (K : ι → Prop) (hJ : ∀ b, K b → own_Go tb e below P (B b)) (h : (∀ b, K b → own_Go tb e below P (B b)) → own_Go tb e below P A) : own_Go tb e below P A := h hJ
section Own
variable {p : Program} {l : Launch} {e : Env} {R : Room} {s : State} {m : MethodId} {args : Array Value} {below : List Frame} {meth : Method} {c : Code} {T : State} {locs : List Loc} {cells slots : Nat}
theorem own_retI (X : Stand p l e R s m args below meth c T locs cells slots) (hx : p.tables.exec = Jvm.exec) {pc : Nat} {Ls : Array Slot} {z : Int32} {rest : List Value} (hret : meth.sig.returnType = some .int) (hd : decode c.code pc = .ok (.ireturn, 1)) {fs : List Frame}
    (hl : ∀ (f : JFrame) (acts : List Action), f.method = m → f.locked = none → f.entered = [] → (doReturn e (T.setTop f) acts (some (.int z))).1 = T.setFrames fs) : Steps p.tables e below (T.setTop (mkF m pc Ls (.int z :: rest))) (T.setFrames fs) := by
  have hm' : T.vm.method? m = some meth := X.method'
  have hn : narrow .int (.int z) = .int z := rfl
  show Steps p.tables e below (T.setTop { method := m, pc := pc, locals := Ls, stack := _ :: rest, locked := none }) _
  jvm_step X.here [X.here.top, hx, hd, hm', hret, hn]
  first | (intro acts; rw [hl _ acts rfl rfl rfl]) | rw [hl _ _ rfl rfl rfl]
  exact Steps.refl _
end Own
def own_z32 (u0 : Int32) : Int32 := (if (0 : Int32) < u0 then (if u0 < (65536 : Int32) then (if u0 < (256 : Int32) then (if u0 < (16 : Int32) then (if u0 < (4 : Int32) then ((31 : Int32) - ((u0.toUInt32 >>> ((1 : Int32) &&& 31).toUInt32).toInt32)) else ((29 : Int32) - ((((u0.toUInt32 >>> ((2 : Int32) &&& 31).toUInt32).toInt32).toUInt32 >>> ((1 : Int32) &&& 31).toUInt32).toInt32))) else (if ((u0.toUInt32 >>> ((4 : Int32) &&& 31).toUInt32).toInt32) < (4 : Int32) then ((27 : Int32) - ((((u0.toUInt32 >>> ((4 : Int32) &&& 31).toUInt32).toInt32).toUInt32 >>> ((1 : Int32) &&& 31).toUInt32).toInt32)) else ((25 : Int32) - ((((((u0.toUInt32 >>> ((4 : Int32) &&& 31).toUInt32).toInt32).toUInt32 >>> ((2 : Int32) &&& 31).toUInt32).toInt32).toUInt32 >>> ((1 : Int32) &&& 31).toUInt32).toInt32)))) else (if ((u0.toUInt32 >>> ((8 : Int32) &&& 31).toUInt32).toInt32) < (16 : Int32) then (if ((u0.toUInt32 >>> ((8 : Int32) &&& 31).toUInt32).toInt32) < (4 : Int32) then ((23 : Int32) - ((((u0.toUInt32 >>> ((8 : Int32) &&& 31).toUInt32).toInt32).toUInt32 >>> ((1 : Int32) &&& 31).toUInt32).toInt32)) else ((21 : Int32) - ((((((u0.toUInt32 >>> ((8 : Int32) &&& 31).toUInt32).toInt32).toUInt32 >>> ((2 : Int32) &&& 31).toUInt32).toInt32).toUInt32 >>> ((1 : Int32) &&& 31).toUInt32).toInt32))) else (if ((((u0.toUInt32 >>> ((8 : Int32) &&& 31).toUInt32).toInt32).toUInt32 >>> ((4 : Int32) &&& 31).toUInt32).toInt32) < (4 : Int32) then ((19 : Int32) - ((((((u0.toUInt32 >>> ((8 : Int32) &&& 31).toUInt32).toInt32).toUInt32 >>> ((4 : Int32) &&& 31).toUInt32).toInt32).toUInt32 >>> ((1 : Int32) &&& 31).toUInt32).toInt32)) else ((17 : Int32) - ((((((((u0.toUInt32 >>> ((8 : Int32) &&& 31).toUInt32).toInt32).toUInt32 >>> ((4 : Int32) &&& 31).toUInt32).toInt32).toUInt32 >>> ((2 : Int32) &&& 31).toUInt32).toInt32).toUInt32 >>> ((1 : Int32) &&& 31).toUInt32).toInt32))))) else (if ((u0.toUInt32 >>> ((16 : Int32) &&& 31).toUInt32).toInt32) < (256 : Int32) then (if ((u0.toUInt32 >>> ((16 : Int32) &&& 31).toUInt32).toInt32) < (16 : Int32) then (if ((u0.toUInt32 >>> ((16 : Int32) &&& 31).toUInt32).toInt32) < (4 : Int32) then ((15 : Int32) - ((((u0.toUInt32 >>> ((16 : Int32) &&& 31).toUInt32).toInt32).toUInt32 >>> ((1 : Int32) &&& 31).toUInt32).toInt32)) else ((13 : Int32) - ((((((u0.toUInt32 >>> ((16 : Int32) &&& 31).toUInt32).toInt32).toUInt32 >>> ((2 : Int32) &&& 31).toUInt32).toInt32).toUInt32 >>> ((1 : Int32) &&& 31).toUInt32).toInt32))) else (if ((((u0.toUInt32 >>> ((16 : Int32) &&& 31).toUInt32).toInt32).toUInt32 >>> ((4 : Int32) &&& 31).toUInt32).toInt32) < (4 : Int32) then ((11 : Int32) - ((((((u0.toUInt32 >>> ((16 : Int32) &&& 31).toUInt32).toInt32).toUInt32 >>> ((4 : Int32) &&& 31).toUInt32).toInt32).toUInt32 >>> ((1 : Int32) &&& 31).toUInt32).toInt32)) else ((9 : Int32) - ((((((((u0.toUInt32 >>> ((16 : Int32) &&& 31).toUInt32).toInt32).toUInt32 >>> ((4 : Int32) &&& 31).toUInt32).toInt32).toUInt32 >>> ((2 : Int32) &&& 31).toUInt32).toInt32).toUInt32 >>> ((1 : Int32) &&& 31).toUInt32).toInt32)))) else (if ((((u0.toUInt32 >>> ((16 : Int32) &&& 31).toUInt32).toInt32).toUInt32 >>> ((8 : Int32) &&& 31).toUInt32).toInt32) < (16 : Int32) then (if ((((u0.toUInt32 >>> ((16 : Int32) &&& 31).toUInt32).toInt32).toUInt32 >>> ((8 : Int32) &&& 31).toUInt32).toInt32) < (4 : Int32) then ((7 : Int32) - ((((((u0.toUInt32 >>> ((16 : Int32) &&& 31).toUInt32).toInt32).toUInt32 >>> ((8 : Int32) &&& 31).toUInt32).toInt32).toUInt32 >>> ((1 : Int32) &&& 31).toUInt32).toInt32)) else ((5 : Int32) - ((((((((u0.toUInt32 >>> ((16 : Int32) &&& 31).toUInt32).toInt32).toUInt32 >>> ((8 : Int32) &&& 31).toUInt32).toInt32).toUInt32 >>> ((2 : Int32) &&& 31).toUInt32).toInt32).toUInt32 >>> ((1 : Int32) &&& 31).toUInt32).toInt32))) else (if ((((((u0.toUInt32 >>> ((16 : Int32) &&& 31).toUInt32).toInt32).toUInt32 >>> ((8 : Int32) &&& 31).toUInt32).toInt32).toUInt32 >>> ((4 : Int32) &&& 31).toUInt32).toInt32) < (4 : Int32) then ((3 : Int32) - ((((((((u0.toUInt32 >>> ((16 : Int32) &&& 31).toUInt32).toInt32).toUInt32 >>> ((8 : Int32) &&& 31).toUInt32).toInt32).toUInt32 >>> ((4 : Int32) &&& 31).toUInt32).toInt32).toUInt32 >>> ((1 : Int32) &&& 31).toUInt32).toInt32)) else ((1 : Int32) - ((((((((((u0.toUInt32 >>> ((16 : Int32) &&& 31).toUInt32).toInt32).toUInt32 >>> ((8 : Int32) &&& 31).toUInt32).toInt32).toUInt32 >>> ((4 : Int32) &&& 31).toUInt32).toInt32).toUInt32 >>> ((2 : Int32) &&& 31).toUInt32).toInt32).toUInt32 >>> ((1 : Int32) &&& 31).toUInt32).toInt32)))))) else (if u0 = (0 : Int32) then (32 : Int32) else (0 : Int32)))
theorem d4_0 : decode jdk_33_method_47_code 0 = .ok (.iload_n 0, 1) := by decide +kernel
theorem d4_1 : decode jdk_33_method_47_code 1 = .ok (.ifCond .gt 14, 3) := by decide +kernel
theorem d4_4 : decode jdk_33_method_47_code 4 = .ok (.iload_n 0, 1) := by decide +kernel
theorem d4_5 : decode jdk_33_method_47_code 5 = .ok (.ifCond .ne 8, 3) := by decide +kernel
theorem d4_8 : decode jdk_33_method_47_code 8 = .ok (.bipush 32, 2) := by decide +kernel
theorem d4_10 : decode jdk_33_method_47_code 10 = .ok (.goto 4, 3) := by decide +kernel
theorem d4_13 : decode jdk_33_method_47_code 13 = .ok (.iconst 0, 1) := by decide +kernel
theorem d4_14 : decode jdk_33_method_47_code 14 = .ok (.ireturn, 1) := by decide +kernel
theorem d4_15 : decode jdk_33_method_47_code 15 = .ok (.bipush 31, 2) := by decide +kernel
theorem d4_17 : decode jdk_33_method_47_code 17 = .ok (.istore_n 1, 1) := by decide +kernel
theorem d4_18 : decode jdk_33_method_47_code 18 = .ok (.iload_n 0, 1) := by decide +kernel
theorem d4_19 : decode jdk_33_method_47_code 19 = .ok (.ldc_w 264, 3) := by decide +kernel
theorem d4_22 : decode jdk_33_method_47_code 22 = .ok (.if_icmp .lt 11, 3) := by decide +kernel
theorem d4_25 : decode jdk_33_method_47_code 25 = .ok (.iinc 1 (-16), 3) := by decide +kernel
theorem d4_28 : decode jdk_33_method_47_code 28 = .ok (.iload_n 0, 1) := by decide +kernel
theorem d4_29 : decode jdk_33_method_47_code 29 = .ok (.bipush 16, 2) := by decide +kernel
theorem d4_31 : decode jdk_33_method_47_code 31 = .ok (.iushr, 1) := by decide +kernel
theorem d4_32 : decode jdk_33_method_47_code 32 = .ok (.istore_n 0, 1) := by decide +kernel
theorem d4_33 : decode jdk_33_method_47_code 33 = .ok (.iload_n 0, 1) := by decide +kernel
theorem d4_34 : decode jdk_33_method_47_code 34 = .ok (.sipush 256, 3) := by decide +kernel
theorem d4_37 : decode jdk_33_method_47_code 37 = .ok (.if_icmp .lt 11, 3) := by decide +kernel
theorem d4_40 : decode jdk_33_method_47_code 40 = .ok (.iinc 1 (-8), 3) := by decide +kernel
theorem d4_43 : decode jdk_33_method_47_code 43 = .ok (.iload_n 0, 1) := by decide +kernel
theorem d4_44 : decode jdk_33_method_47_code 44 = .ok (.bipush 8, 2) := by decide +kernel
theorem d4_46 : decode jdk_33_method_47_code 46 = .ok (.iushr, 1) := by decide +kernel
theorem d4_47 : decode jdk_33_method_47_code 47 = .ok (.istore_n 0, 1) := by decide +kernel
theorem d4_48 : decode jdk_33_method_47_code 48 = .ok (.iload_n 0, 1) := by decide +kernel
theorem d4_49 : decode jdk_33_method_47_code 49 = .ok (.bipush 16, 2) := by decide +kernel
theorem d4_51 : decode jdk_33_method_47_code 51 = .ok (.if_icmp .lt 10, 3) := by decide +kernel
theorem d4_54 : decode jdk_33_method_47_code 54 = .ok (.iinc 1 (-4), 3) := by decide +kernel
theorem d4_57 : decode jdk_33_method_47_code 57 = .ok (.iload_n 0, 1) := by decide +kernel
theorem d4_58 : decode jdk_33_method_47_code 58 = .ok (.iconst 4, 1) := by decide +kernel
theorem d4_59 : decode jdk_33_method_47_code 59 = .ok (.iushr, 1) := by decide +kernel
theorem d4_60 : decode jdk_33_method_47_code 60 = .ok (.istore_n 0, 1) := by decide +kernel
theorem d4_61 : decode jdk_33_method_47_code 61 = .ok (.iload_n 0, 1) := by decide +kernel
theorem d4_62 : decode jdk_33_method_47_code 62 = .ok (.iconst 4, 1) := by decide +kernel
theorem d4_63 : decode jdk_33_method_47_code 63 = .ok (.if_icmp .lt 10, 3) := by decide +kernel
theorem d4_66 : decode jdk_33_method_47_code 66 = .ok (.iinc 1 (-2), 3) := by decide +kernel
theorem d4_69 : decode jdk_33_method_47_code 69 = .ok (.iload_n 0, 1) := by decide +kernel
theorem d4_70 : decode jdk_33_method_47_code 70 = .ok (.iconst 2, 1) := by decide +kernel
theorem d4_71 : decode jdk_33_method_47_code 71 = .ok (.iushr, 1) := by decide +kernel
theorem d4_72 : decode jdk_33_method_47_code 72 = .ok (.istore_n 0, 1) := by decide +kernel
theorem d4_73 : decode jdk_33_method_47_code 73 = .ok (.iload_n 1, 1) := by decide +kernel
theorem d4_74 : decode jdk_33_method_47_code 74 = .ok (.iload_n 0, 1) := by decide +kernel
theorem d4_75 : decode jdk_33_method_47_code 75 = .ok (.iconst 1, 1) := by decide +kernel
theorem d4_76 : decode jdk_33_method_47_code 76 = .ok (.iushr, 1) := by decide +kernel
theorem d4_77 : decode jdk_33_method_47_code 77 = .ok (.isub, 1) := by decide +kernel
theorem d4_78 : decode jdk_33_method_47_code 78 = .ok (.ireturn, 1) := by decide +kernel
theorem own_pd0 : parseMethodDescriptor "(I)I" = some ⟨[.int], some .int⟩ := by decide +kernel
theorem own_pn0 : plainName "java/lang/Integer" = true := by first | (simp [plainName, overriddenIn]; done) | decide +kernel
def Q4 (Z : State) (u0 : Int32) (h0 : Heap) (n0 : Nat) (v : Option Value) (h : Heap) (L : List Loc) : Prop := v = some (.int (own_z32 u0)) ∧ Fr n0 L ∧ h = h0
theorem ef_4 (m : MethodId) (x0 : Int32) : entryFrame m #[(.int x0)] 2 = mkF m 0 #[.val (.int x0), .unset] [] := by first | (simp [entryFrame, mkF, argsToLocals, Value.category]; done) | rfl
set_option maxRecDepth 65536 in
set_option maxHeartbeats 40000000 in
theorem rm4 (l : Launch) (Z : State) (a0 : Array Value) (hw : ∀ d ∈ tables_1, d.before a0 Z = true) (ws : List Jvm.Cond) (u0 : Int32) (h0 : Heap) (n0 : Nat) (Z0 : n0 ≤ h0.size)  :
    MetFree l (⟨"java/lang/Integer", "numberOfLeadingZeros", "(I)I"⟩ : MethodName) (head1 (Jvm.Cond.code (⟨"java/lang/Integer", "numberOfLeadingZeros", "(I)I"⟩ : MethodName) jdk_33_method_47_code 2 (some .int) :: ws) ({ frames := 0, cells := 0, slots := 0, locals := 0 } : Room)) (fun a U => a = #[(.int u0)] ∧ Z.Warmed39 U.vm ∧ U.heap = h0) (fun _ _ _ _ _ => True) (fun _ U o U' => ∃ v L, o = .returned v ∧ Q4 Z u0 h0 n0 v U'.heap L ∧ FrameEnd U o U' L ({ frames := 0, cells := 0, slots := 0, locals := 0 } : Room).cells ({ frames := 0, cells := 0, slots := 0, locals := 0 } : Room).slots) := by
  refine MetFree.of_bodySF (plainFor_of_name own_pn0) hisR ?_
  intro p e s m args below meth c s₁ Bd hml0 hP hK
  obtain ⟨rfl, hZ, hh⟩ := hP
  have hx := Bd.exec
  have hby := Bd.bytes
  have hml : c.maxLocals = 2 := hml0
  have hown : s.vm.findClass "java/lang/Integer" = some m.cls := findClass_of_methodNamed Bd.named
  have hnm := (name_of_methodNamed Bd.named Bd.method).1
  have X0 : Stand p l e ({ frames := 0, cells := 0, slots := 0, locals := 0 } : Room) s m #[(.int u0)] below meth c s₁ [] 0 0 := Stand.of_body Bd
  have e0 : s₁.heap = h0 := by rw [← hh, Bd.state]; rfl
  have N0 := Fr.nil n0
  refine own_in ?_
  refine own_st (fun _ k => castTop (ef_4 m u0) k) ?_
  have K0 : Keep h0 h0 [] := Keep.refl h0 []
  show own_Go _ _ _ _ (s₁.setTop (mkF m 0 #[.val (.int u0), .unset] []))
  refine own_st (fun _ k => XS.iloadN X0.here hx rfl (hb hby d4_0) rfl k) ?_
  show own_Go _ _ _ _ (s₁.setTop (mkF m 1 #[.val (.int u0), .unset] [(.int u0)]))
  by_cases hc1 : (0 : Int32) < u0
  · skip
    refine own_st (fun _ k => XS.ifYes X0.here hx rfl (pc0 := 1) (pc' := 15) rfl (hb hby d4_1) rfl ((if0 _ _).trans (tlt hc1).2.2.1) (by decide) (by decide) k) ?_
    show own_Go _ _ _ _ (s₁.setTop (mkF m 15 #[.val (.int u0), .unset] []))
    refine own_st (fun _ k => XS.bipush X0.here hx rfl (hb hby d4_15) k) ?_
    show own_Go _ _ _ _ (s₁.setTop (mkF m 17 #[.val (.int u0), .unset] [(.int (31 : Int32))]))
    refine own_st (fun _ k => XS.istoreN X0.here hx rfl (hb hby d4_17) rfl (l' := #[.val (.int u0), .val (.int (31 : Int32))]) rfl k) ?_
    show own_Go _ _ _ _ (s₁.setTop (mkF m 18 #[.val (.int u0), .val (.int (31 : Int32))] []))
    refine own_st (fun _ k => XS.iloadN X0.here hx rfl (hb hby d4_18) rfl k) ?_
    show own_Go _ _ _ _ (s₁.setTop (mkF m 19 #[.val (.int u0), .val (.int (31 : Int32))] [(.int u0)]))
    refine own_st (fun _ k => X0.ldcWInt hx hown (mvT hZ (hw _ (List.mem_of_getElem? (i := 18) rfl))) (g := (mkF m 19 #[.val (.int u0), .val (.int (31 : Int32))] [(.int u0)])) rfl (hb hby d4_19) _ k) ?_
    show own_Go _ _ _ _ (s₁.setTop (mkF m 22 #[.val (.int u0), .val (.int (31 : Int32))] [(.int (65536 : Int32)), (.int u0)]))
    by_cases hc2 : u0 < (65536 : Int32)
    · skip
      refine own_st (fun _ k => XS.icmpYes X0.here hx rfl (pc0 := 22) (pc' := 33) rfl (hb hby d4_22) rfl (tlt hc2).1 (by decide) (by decide) k) ?_
      show own_Go _ _ _ _ (s₁.setTop (mkF m 33 #[.val (.int u0), .val (.int (31 : Int32))] []))
      refine own_st (fun _ k => XS.iloadN X0.here hx rfl (hb hby d4_33) rfl k) ?_
      show own_Go _ _ _ _ (s₁.setTop (mkF m 34 #[.val (.int u0), .val (.int (31 : Int32))] [(.int u0)]))
      refine own_st (fun _ k => XS.sipush X0.here hx rfl (hb hby d4_34) k) ?_
      show own_Go _ _ _ _ (s₁.setTop (mkF m 37 #[.val (.int u0), .val (.int (31 : Int32))] [(.int (256 : Int32)), (.int u0)]))
      by_cases hc3 : u0 < (256 : Int32)
      · skip
        refine own_st (fun _ k => XS.icmpYes X0.here hx rfl (pc0 := 37) (pc' := 48) rfl (hb hby d4_37) rfl (tlt hc3).1 (by decide) (by decide) k) ?_
        show own_Go _ _ _ _ (s₁.setTop (mkF m 48 #[.val (.int u0), .val (.int (31 : Int32))] []))
        refine own_st (fun _ k => XS.iloadN X0.here hx rfl (hb hby d4_48) rfl k) ?_
        show own_Go _ _ _ _ (s₁.setTop (mkF m 49 #[.val (.int u0), .val (.int (31 : Int32))] [(.int u0)]))
        refine own_st (fun _ k => XS.bipush X0.here hx rfl (hb hby d4_49) k) ?_
        show own_Go _ _ _ _ (s₁.setTop (mkF m 51 #[.val (.int u0), .val (.int (31 : Int32))] [(.int (16 : Int32)), (.int u0)]))
        by_cases hc4 : u0 < (16 : Int32)
        · skip
          refine own_st (fun _ k => XS.icmpYes X0.here hx rfl (pc0 := 51) (pc' := 61) rfl (hb hby d4_51) rfl (tlt hc4).1 (by decide) (by decide) k) ?_
          show own_Go _ _ _ _ (s₁.setTop (mkF m 61 #[.val (.int u0), .val (.int (31 : Int32))] []))
          refine own_st (fun _ k => XS.iloadN X0.here hx rfl (hb hby d4_61) rfl k) ?_
          show own_Go _ _ _ _ (s₁.setTop (mkF m 62 #[.val (.int u0), .val (.int (31 : Int32))] [(.int u0)]))
          refine own_st (fun _ k => XS.iconst X0.here hx rfl (hb hby d4_62) k) ?_
          show own_Go _ _ _ _ (s₁.setTop (mkF m 63 #[.val (.int u0), .val (.int (31 : Int32))] [(.int (4 : Int32)), (.int u0)]))
          by_cases hc5 : u0 < (4 : Int32)
          · skip
            refine own_st (fun _ k => XS.icmpYes X0.here hx rfl (pc0 := 63) (pc' := 73) rfl (hb hby d4_63) rfl (tlt hc5).1 (by decide) (by decide) k) ?_
            show own_Go _ _ _ _ (s₁.setTop (mkF m 73 #[.val (.int u0), .val (.int (31 : Int32))] []))
            refine own_st (fun _ k => XS.iloadN X0.here hx rfl (hb hby d4_73) rfl k) ?_
            show own_Go _ _ _ _ (s₁.setTop (mkF m 74 #[.val (.int u0), .val (.int (31 : Int32))] [(.int (31 : Int32))]))
            refine own_st (fun _ k => XS.iloadN X0.here hx rfl (hb hby d4_74) rfl k) ?_
            show own_Go _ _ _ _ (s₁.setTop (mkF m 75 #[.val (.int u0), .val (.int (31 : Int32))] [(.int u0), (.int (31 : Int32))]))
            refine own_st (fun _ k => XS.iconst X0.here hx rfl (hb hby d4_75) k) ?_
            show own_Go _ _ _ _ (s₁.setTop (mkF m 76 #[.val (.int u0), .val (.int (31 : Int32))] [(.int (1 : Int32)), (.int u0), (.int (31 : Int32))]))
            refine own_st (fun _ k => XS.iushr X0.here hx rfl (hb hby d4_76) rfl k) ?_
            show own_Go _ _ _ _ (s₁.setTop (mkF m 77 #[.val (.int u0), .val (.int (31 : Int32))] [(.int ((u0.toUInt32 >>> ((1 : Int32) &&& 31).toUInt32).toInt32)), (.int (31 : Int32))]))
            refine own_st (fun _ k => XS.isub X0.here hx rfl (hb hby d4_77) rfl k) ?_
            show own_Go _ _ _ _ (s₁.setTop (mkF m 78 #[.val (.int u0), .val (.int (31 : Int32))] [(.int ((31 : Int32) - ((u0.toUInt32 >>> ((1 : Int32) &&& 31).toUInt32).toInt32)))]))
            obtain ⟨fs, hr, hrun, hended, hW, hsame⟩ := X0.leave (v := some (.int ((31 : Int32) - ((u0.toUInt32 >>> ((1 : Int32) &&& 31).toUInt32).toInt32)))) (fun h => by rw [Bd.returns] at h; cases h)
            refine own_out (own_retI X0 hx Bd.returns (hb hby d4_78) hr) ⟨hrun, hended, _, _, rfl, ?_, ⟨_, rfl⟩, hW, hsame.mono (by decide) (by decide)⟩
            show Q4 Z u0 h0 n0 _ s₁.heap _
            have hv : own_z32 u0 = ((31 : Int32) - ((u0.toUInt32 >>> ((1 : Int32) &&& 31).toUInt32).toInt32)) := by
              unfold own_z32
              rw [if_pos hc1, if_pos hc2, if_pos hc3, if_pos hc4, if_pos hc5]
            exact ⟨by rw [hv], N0, e0⟩
          · skip
            refine own_st (fun _ k => XS.icmpNo X0.here hx rfl (hb hby d4_63) rfl (flt hc5).1 k) ?_
            show own_Go _ _ _ _ (s₁.setTop (mkF m 66 #[.val (.int u0), .val (.int (31 : Int32))] []))
            refine own_st (fun _ k => XS.iinc X0.here hx rfl (hb hby d4_66) rfl (l' := #[.val (.int u0), .val (.int (29 : Int32))]) rfl k) ?_
            show own_Go _ _ _ _ (s₁.setTop (mkF m 69 #[.val (.int u0), .val (.int (29 : Int32))] []))
            refine own_st (fun _ k => XS.iloadN X0.here hx rfl (hb hby d4_69) rfl k) ?_
            show own_Go _ _ _ _ (s₁.setTop (mkF m 70 #[.val (.int u0), .val (.int (29 : Int32))] [(.int u0)]))
            refine own_st (fun _ k => XS.iconst X0.here hx rfl (hb hby d4_70) k) ?_
            show own_Go _ _ _ _ (s₁.setTop (mkF m 71 #[.val (.int u0), .val (.int (29 : Int32))] [(.int (2 : Int32)), (.int u0)]))
            refine own_st (fun _ k => XS.iushr X0.here hx rfl (hb hby d4_71) rfl k) ?_
            show own_Go _ _ _ _ (s₁.setTop (mkF m 72 #[.val (.int u0), .val (.int (29 : Int32))] [(.int ((u0.toUInt32 >>> ((2 : Int32) &&& 31).toUInt32).toInt32))]))
            refine own_st (fun _ k => XS.istoreN X0.here hx rfl (hb hby d4_72) rfl (l' := #[.val (.int ((u0.toUInt32 >>> ((2 : Int32) &&& 31).toUInt32).toInt32)), .val (.int (29 : Int32))]) rfl k) ?_
            show own_Go _ _ _ _ (s₁.setTop (mkF m 73 #[.val (.int ((u0.toUInt32 >>> ((2 : Int32) &&& 31).toUInt32).toInt32)), .val (.int (29 : Int32))] []))
            refine own_st (fun _ k => XS.iloadN X0.here hx rfl (hb hby d4_73) rfl k) ?_
            show own_Go _ _ _ _ (s₁.setTop (mkF m 74 #[.val (.int ((u0.toUInt32 >>> ((2 : Int32) &&& 31).toUInt32).toInt32)), .val (.int (29 : Int32))] [(.int (29 : Int32))]))
            refine own_st (fun _ k => XS.iloadN X0.here hx rfl (hb hby d4_74) rfl k) ?_
            show own_Go _ _ _ _ (s₁.setTop (mkF m 75 #[.val (.int ((u0.toUInt32 >>> ((2 : Int32) &&& 31).toUInt32).toInt32)), .val (.int (29 : Int32))] [(.int ((u0.toUInt32 >>> ((2 : Int32) &&& 31).toUInt32).toInt32)), (.int (29 : Int32))]))
            refine own_st (fun _ k => XS.iconst X0.here hx rfl (hb hby d4_75) k) ?_
            show own_Go _ _ _ _ (s₁.setTop (mkF m 76 #[.val (.int ((u0.toUInt32 >>> ((2 : Int32) &&& 31).toUInt32).toInt32)), .val (.int (29 : Int32))] [(.int (1 : Int32)), (.int ((u0.toUInt32 >>> ((2 : Int32) &&& 31).toUInt32).toInt32)), (.int (29 : Int32))]))
            refine own_st (fun _ k => XS.iushr X0.here hx rfl (hb hby d4_76) rfl k) ?_
            show own_Go _ _ _ _ (s₁.setTop (mkF m 77 #[.val (.int ((u0.toUInt32 >>> ((2 : Int32) &&& 31).toUInt32).toInt32)), .val (.int (29 : Int32))] [(.int ((((u0.toUInt32 >>> ((2 : Int32) &&& 31).toUInt32).toInt32).toUInt32 >>> ((1 : Int32) &&& 31).toUInt32).toInt32)), (.int (29 : Int32))]))
            refine own_st (fun _ k => XS.isub X0.here hx rfl (hb hby d4_77) rfl k) ?_
            show own_Go _ _ _ _ (s₁.setTop (mkF m 78 #[.val (.int ((u0.toUInt32 >>> ((2 : Int32) &&& 31).toUInt32).toInt32)), .val (.int (29 : Int32))] [(.int ((29 : Int32) - ((((u0.toUInt32 >>> ((2 : Int32) &&& 31).toUInt32).toInt32).toUInt32 >>> ((1 : Int32) &&& 31).toUInt32).toInt32)))]))
            obtain ⟨fs, hr, hrun, hended, hW, hsame⟩ := X0.leave (v := some (.int ((29 : Int32) - ((((u0.toUInt32 >>> ((2 : Int32) &&& 31).toUInt32).toInt32).toUInt32 >>> ((1 : Int32) &&& 31).toUInt32).toInt32)))) (fun h => by rw [Bd.returns] at h; cases h)
            refine own_out (own_retI X0 hx Bd.returns (hb hby d4_78) hr) ⟨hrun, hended, _, _, rfl, ?_, ⟨_, rfl⟩, hW, hsame.mono (by decide) (by decide)⟩
            show Q4 Z u0 h0 n0 _ s₁.heap _
            have hv : own_z32 u0 = ((29 : Int32) - ((((u0.toUInt32 >>> ((2 : Int32) &&& 31).toUInt32).toInt32).toUInt32 >>> ((1 : Int32) &&& 31).toUInt32).toInt32)) := by
              unfold own_z32
              rw [if_pos hc1, if_pos hc2, if_pos hc3, if_pos hc4, if_neg hc5]
            exact ⟨by rw [hv], N0, e0⟩
        · skip
          refine own_st (fun _ k => XS.icmpNo X0.here hx rfl (hb hby d4_51) rfl (flt hc4).1 k) ?_
          show own_Go _ _ _ _ (s₁.setTop (mkF m 54 #[.val (.int u0), .val (.int (31 : Int32))] []))
          refine own_st (fun _ k => XS.iinc X0.here hx rfl (hb hby d4_54) rfl (l' := #[.val (.int u0), .val (.int (27 : Int32))]) rfl k) ?_
          show own_Go _ _ _ _ (s₁.setTop (mkF m 57 #[.val (.int u0), .val (.int (27 : Int32))] []))
          refine own_st (fun _ k => XS.iloadN X0.here hx rfl (hb hby d4_57) rfl k) ?_
          show own_Go _ _ _ _ (s₁.setTop (mkF m 58 #[.val (.int u0), .val (.int (27 : Int32))] [(.int u0)]))
          refine own_st (fun _ k => XS.iconst X0.here hx rfl (hb hby d4_58) k) ?_
          show own_Go _ _ _ _ (s₁.setTop (mkF m 59 #[.val (.int u0), .val (.int (27 : Int32))] [(.int (4 : Int32)), (.int u0)]))
          refine own_st (fun _ k => XS.iushr X0.here hx rfl (hb hby d4_59) rfl k) ?_
          show own_Go _ _ _ _ (s₁.setTop (mkF m 60 #[.val (.int u0), .val (.int (27 : Int32))] [(.int ((u0.toUInt32 >>> ((4 : Int32) &&& 31).toUInt32).toInt32))]))
          refine own_st (fun _ k => XS.istoreN X0.here hx rfl (hb hby d4_60) rfl (l' := #[.val (.int ((u0.toUInt32 >>> ((4 : Int32) &&& 31).toUInt32).toInt32)), .val (.int (27 : Int32))]) rfl k) ?_
          show own_Go _ _ _ _ (s₁.setTop (mkF m 61 #[.val (.int ((u0.toUInt32 >>> ((4 : Int32) &&& 31).toUInt32).toInt32)), .val (.int (27 : Int32))] []))
          refine own_st (fun _ k => XS.iloadN X0.here hx rfl (hb hby d4_61) rfl k) ?_
          show own_Go _ _ _ _ (s₁.setTop (mkF m 62 #[.val (.int ((u0.toUInt32 >>> ((4 : Int32) &&& 31).toUInt32).toInt32)), .val (.int (27 : Int32))] [(.int ((u0.toUInt32 >>> ((4 : Int32) &&& 31).toUInt32).toInt32))]))
          refine own_st (fun _ k => XS.iconst X0.here hx rfl (hb hby d4_62) k) ?_
          show own_Go _ _ _ _ (s₁.setTop (mkF m 63 #[.val (.int ((u0.toUInt32 >>> ((4 : Int32) &&& 31).toUInt32).toInt32)), .val (.int (27 : Int32))] [(.int (4 : Int32)), (.int ((u0.toUInt32 >>> ((4 : Int32) &&& 31).toUInt32).toInt32))]))
          by_cases hc6 : ((u0.toUInt32 >>> ((4 : Int32) &&& 31).toUInt32).toInt32) < (4 : Int32)
          · skip
            refine own_st (fun _ k => XS.icmpYes X0.here hx rfl (pc0 := 63) (pc' := 73) rfl (hb hby d4_63) rfl (tlt hc6).1 (by decide) (by decide) k) ?_
            show own_Go _ _ _ _ (s₁.setTop (mkF m 73 #[.val (.int ((u0.toUInt32 >>> ((4 : Int32) &&& 31).toUInt32).toInt32)), .val (.int (27 : Int32))] []))
            refine own_st (fun _ k => XS.iloadN X0.here hx rfl (hb hby d4_73) rfl k) ?_
            show own_Go _ _ _ _ (s₁.setTop (mkF m 74 #[.val (.int ((u0.toUInt32 >>> ((4 : Int32) &&& 31).toUInt32).toInt32)), .val (.int (27 : Int32))] [(.int (27 : Int32))]))
            refine own_st (fun _ k => XS.iloadN X0.here hx rfl (hb hby d4_74) rfl k) ?_
            show own_Go _ _ _ _ (s₁.setTop (mkF m 75 #[.val (.int ((u0.toUInt32 >>> ((4 : Int32) &&& 31).toUInt32).toInt32)), .val (.int (27 : Int32))] [(.int ((u0.toUInt32 >>> ((4 : Int32) &&& 31).toUInt32).toInt32)), (.int (27 : Int32))]))
            refine own_st (fun _ k => XS.iconst X0.here hx rfl (hb hby d4_75) k) ?_
            show own_Go _ _ _ _ (s₁.setTop (mkF m 76 #[.val (.int ((u0.toUInt32 >>> ((4 : Int32) &&& 31).toUInt32).toInt32)), .val (.int (27 : Int32))] [(.int (1 : Int32)), (.int ((u0.toUInt32 >>> ((4 : Int32) &&& 31).toUInt32).toInt32)), (.int (27 : Int32))]))
            refine own_st (fun _ k => XS.iushr X0.here hx rfl (hb hby d4_76) rfl k) ?_
            show own_Go _ _ _ _ (s₁.setTop (mkF m 77 #[.val (.int ((u0.toUInt32 >>> ((4 : Int32) &&& 31).toUInt32).toInt32)), .val (.int (27 : Int32))] [(.int ((((u0.toUInt32 >>> ((4 : Int32) &&& 31).toUInt32).toInt32).toUInt32 >>> ((1 : Int32) &&& 31).toUInt32).toInt32)), (.int (27 : Int32))]))
            refine own_st (fun _ k => XS.isub X0.here hx rfl (hb hby d4_77) rfl k) ?_
            show own_Go _ _ _ _ (s₁.setTop (mkF m 78 #[.val (.int ((u0.toUInt32 >>> ((4 : Int32) &&& 31).toUInt32).toInt32)), .val (.int (27 : Int32))] [(.int ((27 : Int32) - ((((u0.toUInt32 >>> ((4 : Int32) &&& 31).toUInt32).toInt32).toUInt32 >>> ((1 : Int32) &&& 31).toUInt32).toInt32)))]))
            obtain ⟨fs, hr, hrun, hended, hW, hsame⟩ := X0.leave (v := some (.int ((27 : Int32) - ((((u0.toUInt32 >>> ((4 : Int32) &&& 31).toUInt32).toInt32).toUInt32 >>> ((1 : Int32) &&& 31).toUInt32).toInt32)))) (fun h => by rw [Bd.returns] at h; cases h)
            refine own_out (own_retI X0 hx Bd.returns (hb hby d4_78) hr) ⟨hrun, hended, _, _, rfl, ?_, ⟨_, rfl⟩, hW, hsame.mono (by decide) (by decide)⟩
            show Q4 Z u0 h0 n0 _ s₁.heap _
            have hv : own_z32 u0 = ((27 : Int32) - ((((u0.toUInt32 >>> ((4 : Int32) &&& 31).toUInt32).toInt32).toUInt32 >>> ((1 : Int32) &&& 31).toUInt32).toInt32)) := by
              unfold own_z32
              rw [if_pos hc1, if_pos hc2, if_pos hc3, if_neg hc4, if_pos hc6]
            exact ⟨by rw [hv], N0, e0⟩
          · skip
            refine own_st (fun _ k => XS.icmpNo X0.here hx rfl (hb hby d4_63) rfl (flt hc6).1 k) ?_
            show own_Go _ _ _ _ (s₁.setTop (mkF m 66 #[.val (.int ((u0.toUInt32 >>> ((4 : Int32) &&& 31).toUInt32).toInt32)), .val (.int (27 : Int32))] []))
            refine own_st (fun _ k => XS.iinc X0.here hx rfl (hb hby d4_66) rfl (l' := #[.val (.int ((u0.toUInt32 >>> ((4 : Int32) &&& 31).toUInt32).toInt32)), .val (.int (25 : Int32))]) rfl k) ?_
            show own_Go _ _ _ _ (s₁.setTop (mkF m 69 #[.val (.int ((u0.toUInt32 >>> ((4 : Int32) &&& 31).toUInt32).toInt32)), .val (.int (25 : Int32))] []))
            refine own_st (fun _ k => XS.iloadN X0.here hx rfl (hb hby d4_69) rfl k) ?_
            show own_Go _ _ _ _ (s₁.setTop (mkF m 70 #[.val (.int ((u0.toUInt32 >>> ((4 : Int32) &&& 31).toUInt32).toInt32)), .val (.int (25 : Int32))] [(.int ((u0.toUInt32 >>> ((4 : Int32) &&& 31).toUInt32).toInt32))]))
            refine own_st (fun _ k => XS.iconst X0.here hx rfl (hb hby d4_70) k) ?_
            show own_Go _ _ _ _ (s₁.setTop (mkF m 71 #[.val (.int ((u0.toUInt32 >>> ((4 : Int32) &&& 31).toUInt32).toInt32)), .val (.int (25 : Int32))] [(.int (2 : Int32)), (.int ((u0.toUInt32 >>> ((4 : Int32) &&& 31).toUInt32).toInt32))]))
            refine own_st (fun _ k => XS.iushr X0.here hx rfl (hb hby d4_71) rfl k) ?_
            show own_Go _ _ _ _ (s₁.setTop (mkF m 72 #[.val (.int ((u0.toUInt32 >>> ((4 : Int32) &&& 31).toUInt32).toInt32)), .val (.int (25 : Int32))] [(.int ((((u0.toUInt32 >>> ((4 : Int32) &&& 31).toUInt32).toInt32).toUInt32 >>> ((2 : Int32) &&& 31).toUInt32).toInt32))]))
            refine own_st (fun _ k => XS.istoreN X0.here hx rfl (hb hby d4_72) rfl (l' := #[.val (.int ((((u0.toUInt32 >>> ((4 : Int32) &&& 31).toUInt32).toInt32).toUInt32 >>> ((2 : Int32) &&& 31).toUInt32).toInt32)), .val (.int (25 : Int32))]) rfl k) ?_
            show own_Go _ _ _ _ (s₁.setTop (mkF m 73 #[.val (.int ((((u0.toUInt32 >>> ((4 : Int32) &&& 31).toUInt32).toInt32).toUInt32 >>> ((2 : Int32) &&& 31).toUInt32).toInt32)), .val (.int (25 : Int32))] []))
            refine own_st (fun _ k => XS.iloadN X0.here hx rfl (hb hby d4_73) rfl k) ?_
            show own_Go _ _ _ _ (s₁.setTop (mkF m 74 #[.val (.int ((((u0.toUInt32 >>> ((4 : Int32) &&& 31).toUInt32).toInt32).toUInt32 >>> ((2 : Int32) &&& 31).toUInt32).toInt32)), .val (.int (25 : Int32))] [(.int (25 : Int32))]))
            refine own_st (fun _ k => XS.iloadN X0.here hx rfl (hb hby d4_74) rfl k) ?_
            show own_Go _ _ _ _ (s₁.setTop (mkF m 75 #[.val (.int ((((u0.toUInt32 >>> ((4 : Int32) &&& 31).toUInt32).toInt32).toUInt32 >>> ((2 : Int32) &&& 31).toUInt32).toInt32)), .val (.int (25 : Int32))] [(.int ((((u0.toUInt32 >>> ((4 : Int32) &&& 31).toUInt32).toInt32).toUInt32 >>> ((2 : Int32) &&& 31).toUInt32).toInt32)), (.int (25 : Int32))]))
            refine own_st (fun _ k => XS.iconst X0.here hx rfl (hb hby d4_75) k) ?_
            show own_Go _ _ _ _ (s₁.setTop (mkF m 76 #[.val (.int ((((u0.toUInt32 >>> ((4 : Int32) &&& 31).toUInt32).toInt32).toUInt32 >>> ((2 : Int32) &&& 31).toUInt32).toInt32)), .val (.int (25 : Int32))] [(.int (1 : Int32)), (.int ((((u0.toUInt32 >>> ((4 : Int32) &&& 31).toUInt32).toInt32).toUInt32 >>> ((2 : Int32) &&& 31).toUInt32).toInt32)), (.int (25 : Int32))]))
            refine own_st (fun _ k => XS.iushr X0.here hx rfl (hb hby d4_76) rfl k) ?_
            show own_Go _ _ _ _ (s₁.setTop (mkF m 77 #[.val (.int ((((u0.toUInt32 >>> ((4 : Int32) &&& 31).toUInt32).toInt32).toUInt32 >>> ((2 : Int32) &&& 31).toUInt32).toInt32)), .val (.int (25 : Int32))] [(.int ((((((u0.toUInt32 >>> ((4 : Int32) &&& 31).toUInt32).toInt32).toUInt32 >>> ((2 : Int32) &&& 31).toUInt32).toInt32).toUInt32 >>> ((1 : Int32) &&& 31).toUInt32).toInt32)), (.int (25 : Int32))]))
            refine own_st (fun _ k => XS.isub X0.here hx rfl (hb hby d4_77) rfl k) ?_
            show own_Go _ _ _ _ (s₁.setTop (mkF m 78 #[.val (.int ((((u0.toUInt32 >>> ((4 : Int32) &&& 31).toUInt32).toInt32).toUInt32 >>> ((2 : Int32) &&& 31).toUInt32).toInt32)), .val (.int (25 : Int32))] [(.int ((25 : Int32) - ((((((u0.toUInt32 >>> ((4 : Int32) &&& 31).toUInt32).toInt32).toUInt32 >>> ((2 : Int32) &&& 31).toUInt32).toInt32).toUInt32 >>> ((1 : Int32) &&& 31).toUInt32).toInt32)))]))
            obtain ⟨fs, hr, hrun, hended, hW, hsame⟩ := X0.leave (v := some (.int ((25 : Int32) - ((((((u0.toUInt32 >>> ((4 : Int32) &&& 31).toUInt32).toInt32).toUInt32 >>> ((2 : Int32) &&& 31).toUInt32).toInt32).toUInt32 >>> ((1 : Int32) &&& 31).toUInt32).toInt32)))) (fun h => by rw [Bd.returns] at h; cases h)
            refine own_out (own_retI X0 hx Bd.returns (hb hby d4_78) hr) ⟨hrun, hended, _, _, rfl, ?_, ⟨_, rfl⟩, hW, hsame.mono (by decide) (by decide)⟩
            show Q4 Z u0 h0 n0 _ s₁.heap _
            have hv : own_z32 u0 = ((25 : Int32) - ((((((u0.toUInt32 >>> ((4 : Int32) &&& 31).toUInt32).toInt32).toUInt32 >>> ((2 : Int32) &&& 31).toUInt32).toInt32).toUInt32 >>> ((1 : Int32) &&& 31).toUInt32).toInt32)) := by
              unfold own_z32
              rw [if_pos hc1, if_pos hc2, if_pos hc3, if_neg hc4, if_neg hc6]
            exact ⟨by rw [hv], N0, e0⟩
      · skip
        refine own_st (fun _ k => XS.icmpNo X0.here hx rfl (hb hby d4_37) rfl (flt hc3).1 k) ?_
        show own_Go _ _ _ _ (s₁.setTop (mkF m 40 #[.val (.int u0), .val (.int (31 : Int32))] []))
        refine own_st (fun _ k => XS.iinc X0.here hx rfl (hb hby d4_40) rfl (l' := #[.val (.int u0), .val (.int (23 : Int32))]) rfl k) ?_
        show own_Go _ _ _ _ (s₁.setTop (mkF m 43 #[.val (.int u0), .val (.int (23 : Int32))] []))
        refine own_st (fun _ k => XS.iloadN X0.here hx rfl (hb hby d4_43) rfl k) ?_
        show own_Go _ _ _ _ (s₁.setTop (mkF m 44 #[.val (.int u0), .val (.int (23 : Int32))] [(.int u0)]))
        refine own_st (fun _ k => XS.bipush X0.here hx rfl (hb hby d4_44) k) ?_
        show own_Go _ _ _ _ (s₁.setTop (mkF m 46 #[.val (.int u0), .val (.int (23 : Int32))] [(.int (8 : Int32)), (.int u0)]))
        refine own_st (fun _ k => XS.iushr X0.here hx rfl (hb hby d4_46) rfl k) ?_
        show own_Go _ _ _ _ (s₁.setTop (mkF m 47 #[.val (.int u0), .val (.int (23 : Int32))] [(.int ((u0.toUInt32 >>> ((8 : Int32) &&& 31).toUInt32).toInt32))]))
        refine own_st (fun _ k => XS.istoreN X0.here hx rfl (hb hby d4_47) rfl (l' := #[.val (.int ((u0.toUInt32 >>> ((8 : Int32) &&& 31).toUInt32).toInt32)), .val (.int (23 : Int32))]) rfl k) ?_
        show own_Go _ _ _ _ (s₁.setTop (mkF m 48 #[.val (.int ((u0.toUInt32 >>> ((8 : Int32) &&& 31).toUInt32).toInt32)), .val (.int (23 : Int32))] []))
        refine own_st (fun _ k => XS.iloadN X0.here hx rfl (hb hby d4_48) rfl k) ?_
        show own_Go _ _ _ _ (s₁.setTop (mkF m 49 #[.val (.int ((u0.toUInt32 >>> ((8 : Int32) &&& 31).toUInt32).toInt32)), .val (.int (23 : Int32))] [(.int ((u0.toUInt32 >>> ((8 : Int32) &&& 31).toUInt32).toInt32))]))
        refine own_st (fun _ k => XS.bipush X0.here hx rfl (hb hby d4_49) k) ?_
        show own_Go _ _ _ _ (s₁.setTop (mkF m 51 #[.val (.int ((u0.toUInt32 >>> ((8 : Int32) &&& 31).toUInt32).toInt32)), .val (.int (23 : Int32))] [(.int (16 : Int32)), (.int ((u0.toUInt32 >>> ((8 : Int32) &&& 31).toUInt32).toInt32))]))
        by_cases hc7 : ((u0.toUInt32 >>> ((8 : Int32) &&& 31).toUInt32).toInt32) < (16 : Int32)
        · skip
          refine own_st (fun _ k => XS.icmpYes X0.here hx rfl (pc0 := 51) (pc' := 61) rfl (hb hby d4_51) rfl (tlt hc7).1 (by decide) (by decide) k) ?_
          show own_Go _ _ _ _ (s₁.setTop (mkF m 61 #[.val (.int ((u0.toUInt32 >>> ((8 : Int32) &&& 31).toUInt32).toInt32)), .val (.int (23 : Int32))] []))
          refine own_st (fun _ k => XS.iloadN X0.here hx rfl (hb hby d4_61) rfl k) ?_
          show own_Go _ _ _ _ (s₁.setTop (mkF m 62 #[.val (.int ((u0.toUInt32 >>> ((8 : Int32) &&& 31).toUInt32).toInt32)), .val (.int (23 : Int32))] [(.int ((u0.toUInt32 >>> ((8 : Int32) &&& 31).toUInt32).toInt32))]))
          refine own_st (fun _ k => XS.iconst X0.here hx rfl (hb hby d4_62) k) ?_
          show own_Go _ _ _ _ (s₁.setTop (mkF m 63 #[.val (.int ((u0.toUInt32 >>> ((8 : Int32) &&& 31).toUInt32).toInt32)), .val (.int (23 : Int32))] [(.int (4 : Int32)), (.int ((u0.toUInt32 >>> ((8 : Int32) &&& 31).toUInt32).toInt32))]))
          by_cases hc8 : ((u0.toUInt32 >>> ((8 : Int32) &&& 31).toUInt32).toInt32) < (4 : Int32)
          · skip
            refine own_st (fun _ k => XS.icmpYes X0.here hx rfl (pc0 := 63) (pc' := 73) rfl (hb hby d4_63) rfl (tlt hc8).1 (by decide) (by decide) k) ?_
            show own_Go _ _ _ _ (s₁.setTop (mkF m 73 #[.val (.int ((u0.toUInt32 >>> ((8 : Int32) &&& 31).toUInt32).toInt32)), .val (.int (23 : Int32))] []))
            refine own_st (fun _ k => XS.iloadN X0.here hx rfl (hb hby d4_73) rfl k) ?_
            show own_Go _ _ _ _ (s₁.setTop (mkF m 74 #[.val (.int ((u0.toUInt32 >>> ((8 : Int32) &&& 31).toUInt32).toInt32)), .val (.int (23 : Int32))] [(.int (23 : Int32))]))
            refine own_st (fun _ k => XS.iloadN X0.here hx rfl (hb hby d4_74) rfl k) ?_
            show own_Go _ _ _ _ (s₁.setTop (mkF m 75 #[.val (.int ((u0.toUInt32 >>> ((8 : Int32) &&& 31).toUInt32).toInt32)), .val (.int (23 : Int32))] [(.int ((u0.toUInt32 >>> ((8 : Int32) &&& 31).toUInt32).toInt32)), (.int (23 : Int32))]))
            refine own_st (fun _ k => XS.iconst X0.here hx rfl (hb hby d4_75) k) ?_
            show own_Go _ _ _ _ (s₁.setTop (mkF m 76 #[.val (.int ((u0.toUInt32 >>> ((8 : Int32) &&& 31).toUInt32).toInt32)), .val (.int (23 : Int32))] [(.int (1 : Int32)), (.int ((u0.toUInt32 >>> ((8 : Int32) &&& 31).toUInt32).toInt32)), (.int (23 : Int32))]))
            refine own_st (fun _ k => XS.iushr X0.here hx rfl (hb hby d4_76) rfl k) ?_
            show own_Go _ _ _ _ (s₁.setTop (mkF m 77 #[.val (.int ((u0.toUInt32 >>> ((8 : Int32) &&& 31).toUInt32).toInt32)), .val (.int (23 : Int32))] [(.int ((((u0.toUInt32 >>> ((8 : Int32) &&& 31).toUInt32).toInt32).toUInt32 >>> ((1 : Int32) &&& 31).toUInt32).toInt32)), (.int (23 : Int32))]))
            refine own_st (fun _ k => XS.isub X0.here hx rfl (hb hby d4_77) rfl k) ?_
            show own_Go _ _ _ _ (s₁.setTop (mkF m 78 #[.val (.int ((u0.toUInt32 >>> ((8 : Int32) &&& 31).toUInt32).toInt32)), .val (.int (23 : Int32))] [(.int ((23 : Int32) - ((((u0.toUInt32 >>> ((8 : Int32) &&& 31).toUInt32).toInt32).toUInt32 >>> ((1 : Int32) &&& 31).toUInt32).toInt32)))]))
            obtain ⟨fs, hr, hrun, hended, hW, hsame⟩ := X0.leave (v := some (.int ((23 : Int32) - ((((u0.toUInt32 >>> ((8 : Int32) &&& 31).toUInt32).toInt32).toUInt32 >>> ((1 : Int32) &&& 31).toUInt32).toInt32)))) (fun h => by rw [Bd.returns] at h; cases h)
            refine own_out (own_retI X0 hx Bd.returns (hb hby d4_78) hr) ⟨hrun, hended, _, _, rfl, ?_, ⟨_, rfl⟩, hW, hsame.mono (by decide) (by decide)⟩
            show Q4 Z u0 h0 n0 _ s₁.heap _
            have hv : own_z32 u0 = ((23 : Int32) - ((((u0.toUInt32 >>> ((8 : Int32) &&& 31).toUInt32).toInt32).toUInt32 >>> ((1 : Int32) &&& 31).toUInt32).toInt32)) := by
              unfold own_z32
              rw [if_pos hc1, if_pos hc2, if_neg hc3, if_pos hc7, if_pos hc8]
            exact ⟨by rw [hv], N0, e0⟩
          · skip
            refine own_st (fun _ k => XS.icmpNo X0.here hx rfl (hb hby d4_63) rfl (flt hc8).1 k) ?_
            show own_Go _ _ _ _ (s₁.setTop (mkF m 66 #[.val (.int ((u0.toUInt32 >>> ((8 : Int32) &&& 31).toUInt32).toInt32)), .val (.int (23 : Int32))] []))
            refine own_st (fun _ k => XS.iinc X0.here hx rfl (hb hby d4_66) rfl (l' := #[.val (.int ((u0.toUInt32 >>> ((8 : Int32) &&& 31).toUInt32).toInt32)), .val (.int (21 : Int32))]) rfl k) ?_
            show own_Go _ _ _ _ (s₁.setTop (mkF m 69 #[.val (.int ((u0.toUInt32 >>> ((8 : Int32) &&& 31).toUInt32).toInt32)), .val (.int (21 : Int32))] []))
            refine own_st (fun _ k => XS.iloadN X0.here hx rfl (hb hby d4_69) rfl k) ?_
            show own_Go _ _ _ _ (s₁.setTop (mkF m 70 #[.val (.int ((u0.toUInt32 >>> ((8 : Int32) &&& 31).toUInt32).toInt32)), .val (.int (21 : Int32))] [(.int ((u0.toUInt32 >>> ((8 : Int32) &&& 31).toUInt32).toInt32))]))
            refine own_st (fun _ k => XS.iconst X0.here hx rfl (hb hby d4_70) k) ?_
            show own_Go _ _ _ _ (s₁.setTop (mkF m 71 #[.val (.int ((u0.toUInt32 >>> ((8 : Int32) &&& 31).toUInt32).toInt32)), .val (.int (21 : Int32))] [(.int (2 : Int32)), (.int ((u0.toUInt32 >>> ((8 : Int32) &&& 31).toUInt32).toInt32))]))
            refine own_st (fun _ k => XS.iushr X0.here hx rfl (hb hby d4_71) rfl k) ?_
            show own_Go _ _ _ _ (s₁.setTop (mkF m 72 #[.val (.int ((u0.toUInt32 >>> ((8 : Int32) &&& 31).toUInt32).toInt32)), .val (.int (21 : Int32))] [(.int ((((u0.toUInt32 >>> ((8 : Int32) &&& 31).toUInt32).toInt32).toUInt32 >>> ((2 : Int32) &&& 31).toUInt32).toInt32))]))
            refine own_st (fun _ k => XS.istoreN X0.here hx rfl (hb hby d4_72) rfl (l' := #[.val (.int ((((u0.toUInt32 >>> ((8 : Int32) &&& 31).toUInt32).toInt32).toUInt32 >>> ((2 : Int32) &&& 31).toUInt32).toInt32)), .val (.int (21 : Int32))]) rfl k) ?_
            show own_Go _ _ _ _ (s₁.setTop (mkF m 73 #[.val (.int ((((u0.toUInt32 >>> ((8 : Int32) &&& 31).toUInt32).toInt32).toUInt32 >>> ((2 : Int32) &&& 31).toUInt32).toInt32)), .val (.int (21 : Int32))] []))
            refine own_st (fun _ k => XS.iloadN X0.here hx rfl (hb hby d4_73) rfl k) ?_
            show own_Go _ _ _ _ (s₁.setTop (mkF m 74 #[.val (.int ((((u0.toUInt32 >>> ((8 : Int32) &&& 31).toUInt32).toInt32).toUInt32 >>> ((2 : Int32) &&& 31).toUInt32).toInt32)), .val (.int (21 : Int32))] [(.int (21 : Int32))]))
            refine own_st (fun _ k => XS.iloadN X0.here hx rfl (hb hby d4_74) rfl k) ?_
            show own_Go _ _ _ _ (s₁.setTop (mkF m 75 #[.val (.int ((((u0.toUInt32 >>> ((8 : Int32) &&& 31).toUInt32).toInt32).toUInt32 >>> ((2 : Int32) &&& 31).toUInt32).toInt32)), .val (.int (21 : Int32))] [(.int ((((u0.toUInt32 >>> ((8 : Int32) &&& 31).toUInt32).toInt32).toUInt32 >>> ((2 : Int32) &&& 31).toUInt32).toInt32)), (.int (21 : Int32))]))
            refine own_st (fun _ k => XS.iconst X0.here hx rfl (hb hby d4_75) k) ?_
            show own_Go _ _ _ _ (s₁.setTop (mkF m 76 #[.val (.int ((((u0.toUInt32 >>> ((8 : Int32) &&& 31).toUInt32).toInt32).toUInt32 >>> ((2 : Int32) &&& 31).toUInt32).toInt32)), .val (.int (21 : Int32))] [(.int (1 : Int32)), (.int ((((u0.toUInt32 >>> ((8 : Int32) &&& 31).toUInt32).toInt32).toUInt32 >>> ((2 : Int32) &&& 31).toUInt32).toInt32)), (.int (21 : Int32))]))
            refine own_st (fun _ k => XS.iushr X0.here hx rfl (hb hby d4_76) rfl k) ?_
            show own_Go _ _ _ _ (s₁.setTop (mkF m 77 #[.val (.int ((((u0.toUInt32 >>> ((8 : Int32) &&& 31).toUInt32).toInt32).toUInt32 >>> ((2 : Int32) &&& 31).toUInt32).toInt32)), .val (.int (21 : Int32))] [(.int ((((((u0.toUInt32 >>> ((8 : Int32) &&& 31).toUInt32).toInt32).toUInt32 >>> ((2 : Int32) &&& 31).toUInt32).toInt32).toUInt32 >>> ((1 : Int32) &&& 31).toUInt32).toInt32)), (.int (21 : Int32))]))
            refine own_st (fun _ k => XS.isub X0.here hx rfl (hb hby d4_77) rfl k) ?_
            show own_Go _ _ _ _ (s₁.setTop (mkF m 78 #[.val (.int ((((u0.toUInt32 >>> ((8 : Int32) &&& 31).toUInt32).toInt32).toUInt32 >>> ((2 : Int32) &&& 31).toUInt32).toInt32)), .val (.int (21 : Int32))] [(.int ((21 : Int32) - ((((((u0.toUInt32 >>> ((8 : Int32) &&& 31).toUInt32).toInt32).toUInt32 >>> ((2 : Int32) &&& 31).toUInt32).toInt32).toUInt32 >>> ((1 : Int32) &&& 31).toUInt32).toInt32)))]))
            obtain ⟨fs, hr, hrun, hended, hW, hsame⟩ := X0.leave (v := some (.int ((21 : Int32) - ((((((u0.toUInt32 >>> ((8 : Int32) &&& 31).toUInt32).toInt32).toUInt32 >>> ((2 : Int32) &&& 31).toUInt32).toInt32).toUInt32 >>> ((1 : Int32) &&& 31).toUInt32).toInt32)))) (fun h => by rw [Bd.returns] at h; cases h)
            refine own_out (own_retI X0 hx Bd.returns (hb hby d4_78) hr) ⟨hrun, hended, _, _, rfl, ?_, ⟨_, rfl⟩, hW, hsame.mono (by decide) (by decide)⟩
            show Q4 Z u0 h0 n0 _ s₁.heap _
            have hv : own_z32 u0 = ((21 : Int32) - ((((((u0.toUInt32 >>> ((8 : Int32) &&& 31).toUInt32).toInt32).toUInt32 >>> ((2 : Int32) &&& 31).toUInt32).toInt32).toUInt32 >>> ((1 : Int32) &&& 31).toUInt32).toInt32)) := by
              unfold own_z32
              rw [if_pos hc1, if_pos hc2, if_neg hc3, if_pos hc7, if_neg hc8]
            exact ⟨by rw [hv], N0, e0⟩
        · skip
          refine own_st (fun _ k => XS.icmpNo X0.here hx rfl (hb hby d4_51) rfl (flt hc7).1 k) ?_
          show own_Go _ _ _ _ (s₁.setTop (mkF m 54 #[.val (.int ((u0.toUInt32 >>> ((8 : Int32) &&& 31).toUInt32).toInt32)), .val (.int (23 : Int32))] []))
          refine own_st (fun _ k => XS.iinc X0.here hx rfl (hb hby d4_54) rfl (l' := #[.val (.int ((u0.toUInt32 >>> ((8 : Int32) &&& 31).toUInt32).toInt32)), .val (.int (19 : Int32))]) rfl k) ?_
          show own_Go _ _ _ _ (s₁.setTop (mkF m 57 #[.val (.int ((u0.toUInt32 >>> ((8 : Int32) &&& 31).toUInt32).toInt32)), .val (.int (19 : Int32))] []))
          refine own_st (fun _ k => XS.iloadN X0.here hx rfl (hb hby d4_57) rfl k) ?_
          show own_Go _ _ _ _ (s₁.setTop (mkF m 58 #[.val (.int ((u0.toUInt32 >>> ((8 : Int32) &&& 31).toUInt32).toInt32)), .val (.int (19 : Int32))] [(.int ((u0.toUInt32 >>> ((8 : Int32) &&& 31).toUInt32).toInt32))]))
          refine own_st (fun _ k => XS.iconst X0.here hx rfl (hb hby d4_58) k) ?_
          show own_Go _ _ _ _ (s₁.setTop (mkF m 59 #[.val (.int ((u0.toUInt32 >>> ((8 : Int32) &&& 31).toUInt32).toInt32)), .val (.int (19 : Int32))] [(.int (4 : Int32)), (.int ((u0.toUInt32 >>> ((8 : Int32) &&& 31).toUInt32).toInt32))]))
          refine own_st (fun _ k => XS.iushr X0.here hx rfl (hb hby d4_59) rfl k) ?_
          show own_Go _ _ _ _ (s₁.setTop (mkF m 60 #[.val (.int ((u0.toUInt32 >>> ((8 : Int32) &&& 31).toUInt32).toInt32)), .val (.int (19 : Int32))] [(.int ((((u0.toUInt32 >>> ((8 : Int32) &&& 31).toUInt32).toInt32).toUInt32 >>> ((4 : Int32) &&& 31).toUInt32).toInt32))]))
          refine own_st (fun _ k => XS.istoreN X0.here hx rfl (hb hby d4_60) rfl (l' := #[.val (.int ((((u0.toUInt32 >>> ((8 : Int32) &&& 31).toUInt32).toInt32).toUInt32 >>> ((4 : Int32) &&& 31).toUInt32).toInt32)), .val (.int (19 : Int32))]) rfl k) ?_
          show own_Go _ _ _ _ (s₁.setTop (mkF m 61 #[.val (.int ((((u0.toUInt32 >>> ((8 : Int32) &&& 31).toUInt32).toInt32).toUInt32 >>> ((4 : Int32) &&& 31).toUInt32).toInt32)), .val (.int (19 : Int32))] []))
          refine own_st (fun _ k => XS.iloadN X0.here hx rfl (hb hby d4_61) rfl k) ?_
          show own_Go _ _ _ _ (s₁.setTop (mkF m 62 #[.val (.int ((((u0.toUInt32 >>> ((8 : Int32) &&& 31).toUInt32).toInt32).toUInt32 >>> ((4 : Int32) &&& 31).toUInt32).toInt32)), .val (.int (19 : Int32))] [(.int ((((u0.toUInt32 >>> ((8 : Int32) &&& 31).toUInt32).toInt32).toUInt32 >>> ((4 : Int32) &&& 31).toUInt32).toInt32))]))
          refine own_st (fun _ k => XS.iconst X0.here hx rfl (hb hby d4_62) k) ?_
          show own_Go _ _ _ _ (s₁.setTop (mkF m 63 #[.val (.int ((((u0.toUInt32 >>> ((8 : Int32) &&& 31).toUInt32).toInt32).toUInt32 >>> ((4 : Int32) &&& 31).toUInt32).toInt32)), .val (.int (19 : Int32))] [(.int (4 : Int32)), (.int ((((u0.toUInt32 >>> ((8 : Int32) &&& 31).toUInt32).toInt32).toUInt32 >>> ((4 : Int32) &&& 31).toUInt32).toInt32))]))
          by_cases hc9 : ((((u0.toUInt32 >>> ((8 : Int32) &&& 31).toUInt32).toInt32).toUInt32 >>> ((4 : Int32) &&& 31).toUInt32).toInt32) < (4 : Int32)
          · skip
            refine own_st (fun _ k => XS.icmpYes X0.here hx rfl (pc0 := 63) (pc' := 73) rfl (hb hby d4_63) rfl (tlt hc9).1 (by decide) (by decide) k) ?_
            show own_Go _ _ _ _ (s₁.setTop (mkF m 73 #[.val (.int ((((u0.toUInt32 >>> ((8 : Int32) &&& 31).toUInt32).toInt32).toUInt32 >>> ((4 : Int32) &&& 31).toUInt32).toInt32)), .val (.int (19 : Int32))] []))
            refine own_st (fun _ k => XS.iloadN X0.here hx rfl (hb hby d4_73) rfl k) ?_
            show own_Go _ _ _ _ (s₁.setTop (mkF m 74 #[.val (.int ((((u0.toUInt32 >>> ((8 : Int32) &&& 31).toUInt32).toInt32).toUInt32 >>> ((4 : Int32) &&& 31).toUInt32).toInt32)), .val (.int (19 : Int32))] [(.int (19 : Int32))]))
            refine own_st (fun _ k => XS.iloadN X0.here hx rfl (hb hby d4_74) rfl k) ?_
            show own_Go _ _ _ _ (s₁.setTop (mkF m 75 #[.val (.int ((((u0.toUInt32 >>> ((8 : Int32) &&& 31).toUInt32).toInt32).toUInt32 >>> ((4 : Int32) &&& 31).toUInt32).toInt32)), .val (.int (19 : Int32))] [(.int ((((u0.toUInt32 >>> ((8 : Int32) &&& 31).toUInt32).toInt32).toUInt32 >>> ((4 : Int32) &&& 31).toUInt32).toInt32)), (.int (19 : Int32))]))
            refine own_st (fun _ k => XS.iconst X0.here hx rfl (hb hby d4_75) k) ?_
            show own_Go _ _ _ _ (s₁.setTop (mkF m 76 #[.val (.int ((((u0.toUInt32 >>> ((8 : Int32) &&& 31).toUInt32).toInt32).toUInt32 >>> ((4 : Int32) &&& 31).toUInt32).toInt32)), .val (.int (19 : Int32))] [(.int (1 : Int32)), (.int ((((u0.toUInt32 >>> ((8 : Int32) &&& 31).toUInt32).toInt32).toUInt32 >>> ((4 : Int32) &&& 31).toUInt32).toInt32)), (.int (19 : Int32))]))
            refine own_st (fun _ k => XS.iushr X0.here hx rfl (hb hby d4_76) rfl k) ?_
            show own_Go _ _ _ _ (s₁.setTop (mkF m 77 #[.val (.int ((((u0.toUInt32 >>> ((8 : Int32) &&& 31).toUInt32).toInt32).toUInt32 >>> ((4 : Int32) &&& 31).toUInt32).toInt32)), .val (.int (19 : Int32))] [(.int ((((((u0.toUInt32 >>> ((8 : Int32) &&& 31).toUInt32).toInt32).toUInt32 >>> ((4 : Int32) &&& 31).toUInt32).toInt32).toUInt32 >>> ((1 : Int32) &&& 31).toUInt32).toInt32)), (.int (19 : Int32))]))
            refine own_st (fun _ k => XS.isub X0.here hx rfl (hb hby d4_77) rfl k) ?_
            show own_Go _ _ _ _ (s₁.setTop (mkF m 78 #[.val (.int ((((u0.toUInt32 >>> ((8 : Int32) &&& 31).toUInt32).toInt32).toUInt32 >>> ((4 : Int32) &&& 31).toUInt32).toInt32)), .val (.int (19 : Int32))] [(.int ((19 : Int32) - ((((((u0.toUInt32 >>> ((8 : Int32) &&& 31).toUInt32).toInt32).toUInt32 >>> ((4 : Int32) &&& 31).toUInt32).toInt32).toUInt32 >>> ((1 : Int32) &&& 31).toUInt32).toInt32)))]))
            obtain ⟨fs, hr, hrun, hended, hW, hsame⟩ := X0.leave (v := some (.int ((19 : Int32) - ((((((u0.toUInt32 >>> ((8 : Int32) &&& 31).toUInt32).toInt32).toUInt32 >>> ((4 : Int32) &&& 31).toUInt32).toInt32).toUInt32 >>> ((1 : Int32) &&& 31).toUInt32).toInt32)))) (fun h => by rw [Bd.returns] at h; cases h)
            refine own_out (own_retI X0 hx Bd.returns (hb hby d4_78) hr) ⟨hrun, hended, _, _, rfl, ?_, ⟨_, rfl⟩, hW, hsame.mono (by decide) (by decide)⟩
            show Q4 Z u0 h0 n0 _ s₁.heap _
            have hv : own_z32 u0 = ((19 : Int32) - ((((((u0.toUInt32 >>> ((8 : Int32) &&& 31).toUInt32).toInt32).toUInt32 >>> ((4 : Int32) &&& 31).toUInt32).toInt32).toUInt32 >>> ((1 : Int32) &&& 31).toUInt32).toInt32)) := by
              unfold own_z32
              rw [if_pos hc1, if_pos hc2, if_neg hc3, if_neg hc7, if_pos hc9]
            exact ⟨by rw [hv], N0, e0⟩
          · skip
            refine own_st (fun _ k => XS.icmpNo X0.here hx rfl (hb hby d4_63) rfl (flt hc9).1 k) ?_
            show own_Go _ _ _ _ (s₁.setTop (mkF m 66 #[.val (.int ((((u0.toUInt32 >>> ((8 : Int32) &&& 31).toUInt32).toInt32).toUInt32 >>> ((4 : Int32) &&& 31).toUInt32).toInt32)), .val (.int (19 : Int32))] []))
            refine own_st (fun _ k => XS.iinc X0.here hx rfl (hb hby d4_66) rfl (l' := #[.val (.int ((((u0.toUInt32 >>> ((8 : Int32) &&& 31).toUInt32).toInt32).toUInt32 >>> ((4 : Int32) &&& 31).toUInt32).toInt32)), .val (.int (17 : Int32))]) rfl k) ?_
            show own_Go _ _ _ _ (s₁.setTop (mkF m 69 #[.val (.int ((((u0.toUInt32 >>> ((8 : Int32) &&& 31).toUInt32).toInt32).toUInt32 >>> ((4 : Int32) &&& 31).toUInt32).toInt32)), .val (.int (17 : Int32))] []))
            refine own_st (fun _ k => XS.iloadN X0.here hx rfl (hb hby d4_69) rfl k) ?_
            show own_Go _ _ _ _ (s₁.setTop (mkF m 70 #[.val (.int ((((u0.toUInt32 >>> ((8 : Int32) &&& 31).toUInt32).toInt32).toUInt32 >>> ((4 : Int32) &&& 31).toUInt32).toInt32)), .val (.int (17 : Int32))] [(.int ((((u0.toUInt32 >>> ((8 : Int32) &&& 31).toUInt32).toInt32).toUInt32 >>> ((4 : Int32) &&& 31).toUInt32).toInt32))]))
            refine own_st (fun _ k => XS.iconst X0.here hx rfl (hb hby d4_70) k) ?_
            show own_Go _ _ _ _ (s₁.setTop (mkF m 71 #[.val (.int ((((u0.toUInt32 >>> ((8 : Int32) &&& 31).toUInt32).toInt32).toUInt32 >>> ((4 : Int32) &&& 31).toUInt32).toInt32)), .val (.int (17 : Int32))] [(.int (2 : Int32)), (.int ((((u0.toUInt32 >>> ((8 : Int32) &&& 31).toUInt32).toInt32).toUInt32 >>> ((4 : Int32) &&& 31).toUInt32).toInt32))]))
            refine own_st (fun _ k => XS.iushr X0.here hx rfl (hb hby d4_71) rfl k) ?_
            show own_Go _ _ _ _ (s₁.setTop (mkF m 72 #[.val (.int ((((u0.toUInt32 >>> ((8 : Int32) &&& 31).toUInt32).toInt32).toUInt32 >>> ((4 : Int32) &&& 31).toUInt32).toInt32)), .val (.int (17 : Int32))] [(.int ((((((u0.toUInt32 >>> ((8 : Int32) &&& 31).toUInt32).toInt32).toUInt32 >>> ((4 : Int32) &&& 31).toUInt32).toInt32).toUInt32 >>> ((2 : Int32) &&& 31).toUInt32).toInt32))]))
            refine own_st (fun _ k => XS.istoreN X0.here hx rfl (hb hby d4_72) rfl (l' := #[.val (.int ((((((u0.toUInt32 >>> ((8 : Int32) &&& 31).toUInt32).toInt32).toUInt32 >>> ((4 : Int32) &&& 31).toUInt32).toInt32).toUInt32 >>> ((2 : Int32) &&& 31).toUInt32).toInt32)), .val (.int (17 : Int32))]) rfl k) ?_
            show own_Go _ _ _ _ (s₁.setTop (mkF m 73 #[.val (.int ((((((u0.toUInt32 >>> ((8 : Int32) &&& 31).toUInt32).toInt32).toUInt32 >>> ((4 : Int32) &&& 31).toUInt32).toInt32).toUInt32 >>> ((2 : Int32) &&& 31).toUInt32).toInt32)), .val (.int (17 : Int32))] []))
            refine own_st (fun _ k => XS.iloadN X0.here hx rfl (hb hby d4_73) rfl k) ?_
            show own_Go _ _ _ _ (s₁.setTop (mkF m 74 #[.val (.int ((((((u0.toUInt32 >>> ((8 : Int32) &&& 31).toUInt32).toInt32).toUInt32 >>> ((4 : Int32) &&& 31).toUInt32).toInt32).toUInt32 >>> ((2 : Int32) &&& 31).toUInt32).toInt32)), .val (.int (17 : Int32))] [(.int (17 : Int32))]))
            refine own_st (fun _ k => XS.iloadN X0.here hx rfl (hb hby d4_74) rfl k) ?_
            show own_Go _ _ _ _ (s₁.setTop (mkF m 75 #[.val (.int ((((((u0.toUInt32 >>> ((8 : Int32) &&& 31).toUInt32).toInt32).toUInt32 >>> ((4 : Int32) &&& 31).toUInt32).toInt32).toUInt32 >>> ((2 : Int32) &&& 31).toUInt32).toInt32)), .val (.int (17 : Int32))] [(.int ((((((u0.toUInt32 >>> ((8 : Int32) &&& 31).toUInt32).toInt32).toUInt32 >>> ((4 : Int32) &&& 31).toUInt32).toInt32).toUInt32 >>> ((2 : Int32) &&& 31).toUInt32).toInt32)), (.int (17 : Int32))]))
            refine own_st (fun _ k => XS.iconst X0.here hx rfl (hb hby d4_75) k) ?_
            show own_Go _ _ _ _ (s₁.setTop (mkF m 76 #[.val (.int ((((((u0.toUInt32 >>> ((8 : Int32) &&& 31).toUInt32).toInt32).toUInt32 >>> ((4 : Int32) &&& 31).toUInt32).toInt32).toUInt32 >>> ((2 : Int32) &&& 31).toUInt32).toInt32)), .val (.int (17 : Int32))] [(.int (1 : Int32)), (.int ((((((u0.toUInt32 >>> ((8 : Int32) &&& 31).toUInt32).toInt32).toUInt32 >>> ((4 : Int32) &&& 31).toUInt32).toInt32).toUInt32 >>> ((2 : Int32) &&& 31).toUInt32).toInt32)), (.int (17 : Int32))]))
            refine own_st (fun _ k => XS.iushr X0.here hx rfl (hb hby d4_76) rfl k) ?_
            show own_Go _ _ _ _ (s₁.setTop (mkF m 77 #[.val (.int ((((((u0.toUInt32 >>> ((8 : Int32) &&& 31).toUInt32).toInt32).toUInt32 >>> ((4 : Int32) &&& 31).toUInt32).toInt32).toUInt32 >>> ((2 : Int32) &&& 31).toUInt32).toInt32)), .val (.int (17 : Int32))] [(.int ((((((((u0.toUInt32 >>> ((8 : Int32) &&& 31).toUInt32).toInt32).toUInt32 >>> ((4 : Int32) &&& 31).toUInt32).toInt32).toUInt32 >>> ((2 : Int32) &&& 31).toUInt32).toInt32).toUInt32 >>> ((1 : Int32) &&& 31).toUInt32).toInt32)), (.int (17 : Int32))]))
            refine own_st (fun _ k => XS.isub X0.here hx rfl (hb hby d4_77) rfl k) ?_
            show own_Go _ _ _ _ (s₁.setTop (mkF m 78 #[.val (.int ((((((u0.toUInt32 >>> ((8 : Int32) &&& 31).toUInt32).toInt32).toUInt32 >>> ((4 : Int32) &&& 31).toUInt32).toInt32).toUInt32 >>> ((2 : Int32) &&& 31).toUInt32).toInt32)), .val (.int (17 : Int32))] [(.int ((17 : Int32) - ((((((((u0.toUInt32 >>> ((8 : Int32) &&& 31).toUInt32).toInt32).toUInt32 >>> ((4 : Int32) &&& 31).toUInt32).toInt32).toUInt32 >>> ((2 : Int32) &&& 31).toUInt32).toInt32).toUInt32 >>> ((1 : Int32) &&& 31).toUInt32).toInt32)))]))
            obtain ⟨fs, hr, hrun, hended, hW, hsame⟩ := X0.leave (v := some (.int ((17 : Int32) - ((((((((u0.toUInt32 >>> ((8 : Int32) &&& 31).toUInt32).toInt32).toUInt32 >>> ((4 : Int32) &&& 31).toUInt32).toInt32).toUInt32 >>> ((2 : Int32) &&& 31).toUInt32).toInt32).toUInt32 >>> ((1 : Int32) &&& 31).toUInt32).toInt32)))) (fun h => by rw [Bd.returns] at h; cases h)
            refine own_out (own_retI X0 hx Bd.returns (hb hby d4_78) hr) ⟨hrun, hended, _, _, rfl, ?_, ⟨_, rfl⟩, hW, hsame.mono (by decide) (by decide)⟩
            show Q4 Z u0 h0 n0 _ s₁.heap _
            have hv : own_z32 u0 = ((17 : Int32) - ((((((((u0.toUInt32 >>> ((8 : Int32) &&& 31).toUInt32).toInt32).toUInt32 >>> ((4 : Int32) &&& 31).toUInt32).toInt32).toUInt32 >>> ((2 : Int32) &&& 31).toUInt32).toInt32).toUInt32 >>> ((1 : Int32) &&& 31).toUInt32).toInt32)) := by
              unfold own_z32
              rw [if_pos hc1, if_pos hc2, if_neg hc3, if_neg hc7, if_neg hc9]
            exact ⟨by rw [hv], N0, e0⟩
    · skip
      refine own_st (fun _ k => XS.icmpNo X0.here hx rfl (hb hby d4_22) rfl (flt hc2).1 k) ?_
      show own_Go _ _ _ _ (s₁.setTop (mkF m 25 #[.val (.int u0), .val (.int (31 : Int32))] []))
      refine own_st (fun _ k => XS.iinc X0.here hx rfl (hb hby d4_25) rfl (l' := #[.val (.int u0), .val (.int (15 : Int32))]) rfl k) ?_
      show own_Go _ _ _ _ (s₁.setTop (mkF m 28 #[.val (.int u0), .val (.int (15 : Int32))] []))
      refine own_st (fun _ k => XS.iloadN X0.here hx rfl (hb hby d4_28) rfl k) ?_
      show own_Go _ _ _ _ (s₁.setTop (mkF m 29 #[.val (.int u0), .val (.int (15 : Int32))] [(.int u0)]))
      refine own_st (fun _ k => XS.bipush X0.here hx rfl (hb hby d4_29) k) ?_
      show own_Go _ _ _ _ (s₁.setTop (mkF m 31 #[.val (.int u0), .val (.int (15 : Int32))] [(.int (16 : Int32)), (.int u0)]))
      refine own_st (fun _ k => XS.iushr X0.here hx rfl (hb hby d4_31) rfl k) ?_
      show own_Go _ _ _ _ (s₁.setTop (mkF m 32 #[.val (.int u0), .val (.int (15 : Int32))] [(.int ((u0.toUInt32 >>> ((16 : Int32) &&& 31).toUInt32).toInt32))]))
      refine own_st (fun _ k => XS.istoreN X0.here hx rfl (hb hby d4_32) rfl (l' := #[.val (.int ((u0.toUInt32 >>> ((16 : Int32) &&& 31).toUInt32).toInt32)), .val (.int (15 : Int32))]) rfl k) ?_
      show own_Go _ _ _ _ (s₁.setTop (mkF m 33 #[.val (.int ((u0.toUInt32 >>> ((16 : Int32) &&& 31).toUInt32).toInt32)), .val (.int (15 : Int32))] []))
      refine own_st (fun _ k => XS.iloadN X0.here hx rfl (hb hby d4_33) rfl k) ?_
      show own_Go _ _ _ _ (s₁.setTop (mkF m 34 #[.val (.int ((u0.toUInt32 >>> ((16 : Int32) &&& 31).toUInt32).toInt32)), .val (.int (15 : Int32))] [(.int ((u0.toUInt32 >>> ((16 : Int32) &&& 31).toUInt32).toInt32))]))
      refine own_st (fun _ k => XS.sipush X0.here hx rfl (hb hby d4_34) k) ?_
      show own_Go _ _ _ _ (s₁.setTop (mkF m 37 #[.val (.int ((u0.toUInt32 >>> ((16 : Int32) &&& 31).toUInt32).toInt32)), .val (.int (15 : Int32))] [(.int (256 : Int32)), (.int ((u0.toUInt32 >>> ((16 : Int32) &&& 31).toUInt32).toInt32))]))
      by_cases hc10 : ((u0.toUInt32 >>> ((16 : Int32) &&& 31).toUInt32).toInt32) < (256 : Int32)
      · skip
        refine own_st (fun _ k => XS.icmpYes X0.here hx rfl (pc0 := 37) (pc' := 48) rfl (hb hby d4_37) rfl (tlt hc10).1 (by decide) (by decide) k) ?_
        show own_Go _ _ _ _ (s₁.setTop (mkF m 48 #[.val (.int ((u0.toUInt32 >>> ((16 : Int32) &&& 31).toUInt32).toInt32)), .val (.int (15 : Int32))] []))
        refine own_st (fun _ k => XS.iloadN X0.here hx rfl (hb hby d4_48) rfl k) ?_
        show own_Go _ _ _ _ (s₁.setTop (mkF m 49 #[.val (.int ((u0.toUInt32 >>> ((16 : Int32) &&& 31).toUInt32).toInt32)), .val (.int (15 : Int32))] [(.int ((u0.toUInt32 >>> ((16 : Int32) &&& 31).toUInt32).toInt32))]))
        refine own_st (fun _ k => XS.bipush X0.here hx rfl (hb hby d4_49) k) ?_
        show own_Go _ _ _ _ (s₁.setTop (mkF m 51 #[.val (.int ((u0.toUInt32 >>> ((16 : Int32) &&& 31).toUInt32).toInt32)), .val (.int (15 : Int32))] [(.int (16 : Int32)), (.int ((u0.toUInt32 >>> ((16 : Int32) &&& 31).toUInt32).toInt32))]))
        by_cases hc11 : ((u0.toUInt32 >>> ((16 : Int32) &&& 31).toUInt32).toInt32) < (16 : Int32)
        · skip
          refine own_st (fun _ k => XS.icmpYes X0.here hx rfl (pc0 := 51) (pc' := 61) rfl (hb hby d4_51) rfl (tlt hc11).1 (by decide) (by decide) k) ?_
          show own_Go _ _ _ _ (s₁.setTop (mkF m 61 #[.val (.int ((u0.toUInt32 >>> ((16 : Int32) &&& 31).toUInt32).toInt32)), .val (.int (15 : Int32))] []))
          refine own_st (fun _ k => XS.iloadN X0.here hx rfl (hb hby d4_61) rfl k) ?_
          show own_Go _ _ _ _ (s₁.setTop (mkF m 62 #[.val (.int ((u0.toUInt32 >>> ((16 : Int32) &&& 31).toUInt32).toInt32)), .val (.int (15 : Int32))] [(.int ((u0.toUInt32 >>> ((16 : Int32) &&& 31).toUInt32).toInt32))]))
          refine own_st (fun _ k => XS.iconst X0.here hx rfl (hb hby d4_62) k) ?_
          show own_Go _ _ _ _ (s₁.setTop (mkF m 63 #[.val (.int ((u0.toUInt32 >>> ((16 : Int32) &&& 31).toUInt32).toInt32)), .val (.int (15 : Int32))] [(.int (4 : Int32)), (.int ((u0.toUInt32 >>> ((16 : Int32) &&& 31).toUInt32).toInt32))]))
          by_cases hc12 : ((u0.toUInt32 >>> ((16 : Int32) &&& 31).toUInt32).toInt32) < (4 : Int32)
          · skip
            refine own_st (fun _ k => XS.icmpYes X0.here hx rfl (pc0 := 63) (pc' := 73) rfl (hb hby d4_63) rfl (tlt hc12).1 (by decide) (by decide) k) ?_
            show own_Go _ _ _ _ (s₁.setTop (mkF m 73 #[.val (.int ((u0.toUInt32 >>> ((16 : Int32) &&& 31).toUInt32).toInt32)), .val (.int (15 : Int32))] []))
            refine own_st (fun _ k => XS.iloadN X0.here hx rfl (hb hby d4_73) rfl k) ?_
            show own_Go _ _ _ _ (s₁.setTop (mkF m 74 #[.val (.int ((u0.toUInt32 >>> ((16 : Int32) &&& 31).toUInt32).toInt32)), .val (.int (15 : Int32))] [(.int (15 : Int32))]))
            refine own_st (fun _ k => XS.iloadN X0.here hx rfl (hb hby d4_74) rfl k) ?_
            show own_Go _ _ _ _ (s₁.setTop (mkF m 75 #[.val (.int ((u0.toUInt32 >>> ((16 : Int32) &&& 31).toUInt32).toInt32)), .val (.int (15 : Int32))] [(.int ((u0.toUInt32 >>> ((16 : Int32) &&& 31).toUInt32).toInt32)), (.int (15 : Int32))]))
            refine own_st (fun _ k => XS.iconst X0.here hx rfl (hb hby d4_75) k) ?_
            show own_Go _ _ _ _ (s₁.setTop (mkF m 76 #[.val (.int ((u0.toUInt32 >>> ((16 : Int32) &&& 31).toUInt32).toInt32)), .val (.int (15 : Int32))] [(.int (1 : Int32)), (.int ((u0.toUInt32 >>> ((16 : Int32) &&& 31).toUInt32).toInt32)), (.int (15 : Int32))]))
            refine own_st (fun _ k => XS.iushr X0.here hx rfl (hb hby d4_76) rfl k) ?_
            show own_Go _ _ _ _ (s₁.setTop (mkF m 77 #[.val (.int ((u0.toUInt32 >>> ((16 : Int32) &&& 31).toUInt32).toInt32)), .val (.int (15 : Int32))] [(.int ((((u0.toUInt32 >>> ((16 : Int32) &&& 31).toUInt32).toInt32).toUInt32 >>> ((1 : Int32) &&& 31).toUInt32).toInt32)), (.int (15 : Int32))]))
            refine own_st (fun _ k => XS.isub X0.here hx rfl (hb hby d4_77) rfl k) ?_
            show own_Go _ _ _ _ (s₁.setTop (mkF m 78 #[.val (.int ((u0.toUInt32 >>> ((16 : Int32) &&& 31).toUInt32).toInt32)), .val (.int (15 : Int32))] [(.int ((15 : Int32) - ((((u0.toUInt32 >>> ((16 : Int32) &&& 31).toUInt32).toInt32).toUInt32 >>> ((1 : Int32) &&& 31).toUInt32).toInt32)))]))
            obtain ⟨fs, hr, hrun, hended, hW, hsame⟩ := X0.leave (v := some (.int ((15 : Int32) - ((((u0.toUInt32 >>> ((16 : Int32) &&& 31).toUInt32).toInt32).toUInt32 >>> ((1 : Int32) &&& 31).toUInt32).toInt32)))) (fun h => by rw [Bd.returns] at h; cases h)
            refine own_out (own_retI X0 hx Bd.returns (hb hby d4_78) hr) ⟨hrun, hended, _, _, rfl, ?_, ⟨_, rfl⟩, hW, hsame.mono (by decide) (by decide)⟩
            show Q4 Z u0 h0 n0 _ s₁.heap _
            have hv : own_z32 u0 = ((15 : Int32) - ((((u0.toUInt32 >>> ((16 : Int32) &&& 31).toUInt32).toInt32).toUInt32 >>> ((1 : Int32) &&& 31).toUInt32).toInt32)) := by
              unfold own_z32
              rw [if_pos hc1, if_neg hc2, if_pos hc10, if_pos hc11, if_pos hc12]
            exact ⟨by rw [hv], N0, e0⟩
          · skip
            refine own_st (fun _ k => XS.icmpNo X0.here hx rfl (hb hby d4_63) rfl (flt hc12).1 k) ?_
            show own_Go _ _ _ _ (s₁.setTop (mkF m 66 #[.val (.int ((u0.toUInt32 >>> ((16 : Int32) &&& 31).toUInt32).toInt32)), .val (.int (15 : Int32))] []))
            refine own_st (fun _ k => XS.iinc X0.here hx rfl (hb hby d4_66) rfl (l' := #[.val (.int ((u0.toUInt32 >>> ((16 : Int32) &&& 31).toUInt32).toInt32)), .val (.int (13 : Int32))]) rfl k) ?_
            show own_Go _ _ _ _ (s₁.setTop (mkF m 69 #[.val (.int ((u0.toUInt32 >>> ((16 : Int32) &&& 31).toUInt32).toInt32)), .val (.int (13 : Int32))] []))
            refine own_st (fun _ k => XS.iloadN X0.here hx rfl (hb hby d4_69) rfl k) ?_
            show own_Go _ _ _ _ (s₁.setTop (mkF m 70 #[.val (.int ((u0.toUInt32 >>> ((16 : Int32) &&& 31).toUInt32).toInt32)), .val (.int (13 : Int32))] [(.int ((u0.toUInt32 >>> ((16 : Int32) &&& 31).toUInt32).toInt32))]))
            refine own_st (fun _ k => XS.iconst X0.here hx rfl (hb hby d4_70) k) ?_
            show own_Go _ _ _ _ (s₁.setTop (mkF m 71 #[.val (.int ((u0.toUInt32 >>> ((16 : Int32) &&& 31).toUInt32).toInt32)), .val (.int (13 : Int32))] [(.int (2 : Int32)), (.int ((u0.toUInt32 >>> ((16 : Int32) &&& 31).toUInt32).toInt32))]))
            refine own_st (fun _ k => XS.iushr X0.here hx rfl (hb hby d4_71) rfl k) ?_
            show own_Go _ _ _ _ (s₁.setTop (mkF m 72 #[.val (.int ((u0.toUInt32 >>> ((16 : Int32) &&& 31).toUInt32).toInt32)), .val (.int (13 : Int32))] [(.int ((((u0.toUInt32 >>> ((16 : Int32) &&& 31).toUInt32).toInt32).toUInt32 >>> ((2 : Int32) &&& 31).toUInt32).toInt32))]))
            refine own_st (fun _ k => XS.istoreN X0.here hx rfl (hb hby d4_72) rfl (l' := #[.val (.int ((((u0.toUInt32 >>> ((16 : Int32) &&& 31).toUInt32).toInt32).toUInt32 >>> ((2 : Int32) &&& 31).toUInt32).toInt32)), .val (.int (13 : Int32))]) rfl k) ?_
            show own_Go _ _ _ _ (s₁.setTop (mkF m 73 #[.val (.int ((((u0.toUInt32 >>> ((16 : Int32) &&& 31).toUInt32).toInt32).toUInt32 >>> ((2 : Int32) &&& 31).toUInt32).toInt32)), .val (.int (13 : Int32))] []))
            refine own_st (fun _ k => XS.iloadN X0.here hx rfl (hb hby d4_73) rfl k) ?_
            show own_Go _ _ _ _ (s₁.setTop (mkF m 74 #[.val (.int ((((u0.toUInt32 >>> ((16 : Int32) &&& 31).toUInt32).toInt32).toUInt32 >>> ((2 : Int32) &&& 31).toUInt32).toInt32)), .val (.int (13 : Int32))] [(.int (13 : Int32))]))
            refine own_st (fun _ k => XS.iloadN X0.here hx rfl (hb hby d4_74) rfl k) ?_
            show own_Go _ _ _ _ (s₁.setTop (mkF m 75 #[.val (.int ((((u0.toUInt32 >>> ((16 : Int32) &&& 31).toUInt32).toInt32).toUInt32 >>> ((2 : Int32) &&& 31).toUInt32).toInt32)), .val (.int (13 : Int32))] [(.int ((((u0.toUInt32 >>> ((16 : Int32) &&& 31).toUInt32).toInt32).toUInt32 >>> ((2 : Int32) &&& 31).toUInt32).toInt32)), (.int (13 : Int32))]))
            refine own_st (fun _ k => XS.iconst X0.here hx rfl (hb hby d4_75) k) ?_
            show own_Go _ _ _ _ (s₁.setTop (mkF m 76 #[.val (.int ((((u0.toUInt32 >>> ((16 : Int32) &&& 31).toUInt32).toInt32).toUInt32 >>> ((2 : Int32) &&& 31).toUInt32).toInt32)), .val (.int (13 : Int32))] [(.int (1 : Int32)), (.int ((((u0.toUInt32 >>> ((16 : Int32) &&& 31).toUInt32).toInt32).toUInt32 >>> ((2 : Int32) &&& 31).toUInt32).toInt32)), (.int (13 : Int32))]))
            refine own_st (fun _ k => XS.iushr X0.here hx rfl (hb hby d4_76) rfl k) ?_
            show own_Go _ _ _ _ (s₁.setTop (mkF m 77 #[.val (.int ((((u0.toUInt32 >>> ((16 : Int32) &&& 31).toUInt32).toInt32).toUInt32 >>> ((2 : Int32) &&& 31).toUInt32).toInt32)), .val (.int (13 : Int32))] [(.int ((((((u0.toUInt32 >>> ((16 : Int32) &&& 31).toUInt32).toInt32).toUInt32 >>> ((2 : Int32) &&& 31).toUInt32).toInt32).toUInt32 >>> ((1 : Int32) &&& 31).toUInt32).toInt32)), (.int (13 : Int32))]))
            refine own_st (fun _ k => XS.isub X0.here hx rfl (hb hby d4_77) rfl k) ?_
            show own_Go _ _ _ _ (s₁.setTop (mkF m 78 #[.val (.int ((((u0.toUInt32 >>> ((16 : Int32) &&& 31).toUInt32).toInt32).toUInt32 >>> ((2 : Int32) &&& 31).toUInt32).toInt32)), .val (.int (13 : Int32))] [(.int ((13 : Int32) - ((((((u0.toUInt32 >>> ((16 : Int32) &&& 31).toUInt32).toInt32).toUInt32 >>> ((2 : Int32) &&& 31).toUInt32).toInt32).toUInt32 >>> ((1 : Int32) &&& 31).toUInt32).toInt32)))]))
            obtain ⟨fs, hr, hrun, hended, hW, hsame⟩ := X0.leave (v := some (.int ((13 : Int32) - ((((((u0.toUInt32 >>> ((16 : Int32) &&& 31).toUInt32).toInt32).toUInt32 >>> ((2 : Int32) &&& 31).toUInt32).toInt32).toUInt32 >>> ((1 : Int32) &&& 31).toUInt32).toInt32)))) (fun h => by rw [Bd.returns] at h; cases h)
            refine own_out (own_retI X0 hx Bd.returns (hb hby d4_78) hr) ⟨hrun, hended, _, _, rfl, ?_, ⟨_, rfl⟩, hW, hsame.mono (by decide) (by decide)⟩
            show Q4 Z u0 h0 n0 _ s₁.heap _
            have hv : own_z32 u0 = ((13 : Int32) - ((((((u0.toUInt32 >>> ((16 : Int32) &&& 31).toUInt32).toInt32).toUInt32 >>> ((2 : Int32) &&& 31).toUInt32).toInt32).toUInt32 >>> ((1 : Int32) &&& 31).toUInt32).toInt32)) := by
              unfold own_z32
              rw [if_pos hc1, if_neg hc2, if_pos hc10, if_pos hc11, if_neg hc12]
            exact ⟨by rw [hv], N0, e0⟩
        · skip
          refine own_st (fun _ k => XS.icmpNo X0.here hx rfl (hb hby d4_51) rfl (flt hc11).1 k) ?_
          show own_Go _ _ _ _ (s₁.setTop (mkF m 54 #[.val (.int ((u0.toUInt32 >>> ((16 : Int32) &&& 31).toUInt32).toInt32)), .val (.int (15 : Int32))] []))
          refine own_st (fun _ k => XS.iinc X0.here hx rfl (hb hby d4_54) rfl (l' := #[.val (.int ((u0.toUInt32 >>> ((16 : Int32) &&& 31).toUInt32).toInt32)), .val (.int (11 : Int32))]) rfl k) ?_
          show own_Go _ _ _ _ (s₁.setTop (mkF m 57 #[.val (.int ((u0.toUInt32 >>> ((16 : Int32) &&& 31).toUInt32).toInt32)), .val (.int (11 : Int32))] []))
          refine own_st (fun _ k => XS.iloadN X0.here hx rfl (hb hby d4_57) rfl k) ?_
          show own_Go _ _ _ _ (s₁.setTop (mkF m 58 #[.val (.int ((u0.toUInt32 >>> ((16 : Int32) &&& 31).toUInt32).toInt32)), .val (.int (11 : Int32))] [(.int ((u0.toUInt32 >>> ((16 : Int32) &&& 31).toUInt32).toInt32))]))
          refine own_st (fun _ k => XS.iconst X0.here hx rfl (hb hby d4_58) k) ?_
          show own_Go _ _ _ _ (s₁.setTop (mkF m 59 #[.val (.int ((u0.toUInt32 >>> ((16 : Int32) &&& 31).toUInt32).toInt32)), .val (.int (11 : Int32))] [(.int (4 : Int32)), (.int ((u0.toUInt32 >>> ((16 : Int32) &&& 31).toUInt32).toInt32))]))
          refine own_st (fun _ k => XS.iushr X0.here hx rfl (hb hby d4_59) rfl k) ?_
          show own_Go _ _ _ _ (s₁.setTop (mkF m 60 #[.val (.int ((u0.toUInt32 >>> ((16 : Int32) &&& 31).toUInt32).toInt32)), .val (.int (11 : Int32))] [(.int ((((u0.toUInt32 >>> ((16 : Int32) &&& 31).toUInt32).toInt32).toUInt32 >>> ((4 : Int32) &&& 31).toUInt32).toInt32))]))
          refine own_st (fun _ k => XS.istoreN X0.here hx rfl (hb hby d4_60) rfl (l' := #[.val (.int ((((u0.toUInt32 >>> ((16 : Int32) &&& 31).toUInt32).toInt32).toUInt32 >>> ((4 : Int32) &&& 31).toUInt32).toInt32)), .val (.int (11 : Int32))]) rfl k) ?_
          show own_Go _ _ _ _ (s₁.setTop (mkF m 61 #[.val (.int ((((u0.toUInt32 >>> ((16 : Int32) &&& 31).toUInt32).toInt32).toUInt32 >>> ((4 : Int32) &&& 31).toUInt32).toInt32)), .val (.int (11 : Int32))] []))
          refine own_st (fun _ k => XS.iloadN X0.here hx rfl (hb hby d4_61) rfl k) ?_
          show own_Go _ _ _ _ (s₁.setTop (mkF m 62 #[.val (.int ((((u0.toUInt32 >>> ((16 : Int32) &&& 31).toUInt32).toInt32).toUInt32 >>> ((4 : Int32) &&& 31).toUInt32).toInt32)), .val (.int (11 : Int32))] [(.int ((((u0.toUInt32 >>> ((16 : Int32) &&& 31).toUInt32).toInt32).toUInt32 >>> ((4 : Int32) &&& 31).toUInt32).toInt32))]))
          refine own_st (fun _ k => XS.iconst X0.here hx rfl (hb hby d4_62) k) ?_
          show own_Go _ _ _ _ (s₁.setTop (mkF m 63 #[.val (.int ((((u0.toUInt32 >>> ((16 : Int32) &&& 31).toUInt32).toInt32).toUInt32 >>> ((4 : Int32) &&& 31).toUInt32).toInt32)), .val (.int (11 : Int32))] [(.int (4 : Int32)), (.int ((((u0.toUInt32 >>> ((16 : Int32) &&& 31).toUInt32).toInt32).toUInt32 >>> ((4 : Int32) &&& 31).toUInt32).toInt32))]))
          by_cases hc13 : ((((u0.toUInt32 >>> ((16 : Int32) &&& 31).toUInt32).toInt32).toUInt32 >>> ((4 : Int32) &&& 31).toUInt32).toInt32) < (4 : Int32)
          · skip
            refine own_st (fun _ k => XS.icmpYes X0.here hx rfl (pc0 := 63) (pc' := 73) rfl (hb hby d4_63) rfl (tlt hc13).1 (by decide) (by decide) k) ?_
            show own_Go _ _ _ _ (s₁.setTop (mkF m 73 #[.val (.int ((((u0.toUInt32 >>> ((16 : Int32) &&& 31).toUInt32).toInt32).toUInt32 >>> ((4 : Int32) &&& 31).toUInt32).toInt32)), .val (.int (11 : Int32))] []))
            refine own_st (fun _ k => XS.iloadN X0.here hx rfl (hb hby d4_73) rfl k) ?_
            show own_Go _ _ _ _ (s₁.setTop (mkF m 74 #[.val (.int ((((u0.toUInt32 >>> ((16 : Int32) &&& 31).toUInt32).toInt32).toUInt32 >>> ((4 : Int32) &&& 31).toUInt32).toInt32)), .val (.int (11 : Int32))] [(.int (11 : Int32))]))
            refine own_st (fun _ k => XS.iloadN X0.here hx rfl (hb hby d4_74) rfl k) ?_
            show own_Go _ _ _ _ (s₁.setTop (mkF m 75 #[.val (.int ((((u0.toUInt32 >>> ((16 : Int32) &&& 31).toUInt32).toInt32).toUInt32 >>> ((4 : Int32) &&& 31).toUInt32).toInt32)), .val (.int (11 : Int32))] [(.int ((((u0.toUInt32 >>> ((16 : Int32) &&& 31).toUInt32).toInt32).toUInt32 >>> ((4 : Int32) &&& 31).toUInt32).toInt32)), (.int (11 : Int32))]))
            refine own_st (fun _ k => XS.iconst X0.here hx rfl (hb hby d4_75) k) ?_
            show own_Go _ _ _ _ (s₁.setTop (mkF m 76 #[.val (.int ((((u0.toUInt32 >>> ((16 : Int32) &&& 31).toUInt32).toInt32).toUInt32 >>> ((4 : Int32) &&& 31).toUInt32).toInt32)), .val (.int (11 : Int32))] [(.int (1 : Int32)), (.int ((((u0.toUInt32 >>> ((16 : Int32) &&& 31).toUInt32).toInt32).toUInt32 >>> ((4 : Int32) &&& 31).toUInt32).toInt32)), (.int (11 : Int32))]))
            refine own_st (fun _ k => XS.iushr X0.here hx rfl (hb hby d4_76) rfl k) ?_
            show own_Go _ _ _ _ (s₁.setTop (mkF m 77 #[.val (.int ((((u0.toUInt32 >>> ((16 : Int32) &&& 31).toUInt32).toInt32).toUInt32 >>> ((4 : Int32) &&& 31).toUInt32).toInt32)), .val (.int (11 : Int32))] [(.int ((((((u0.toUInt32 >>> ((16 : Int32) &&& 31).toUInt32).toInt32).toUInt32 >>> ((4 : Int32) &&& 31).toUInt32).toInt32).toUInt32 >>> ((1 : Int32) &&& 31).toUInt32).toInt32)), (.int (11 : Int32))]))
            refine own_st (fun _ k => XS.isub X0.here hx rfl (hb hby d4_77) rfl k) ?_
            show own_Go _ _ _ _ (s₁.setTop (mkF m 78 #[.val (.int ((((u0.toUInt32 >>> ((16 : Int32) &&& 31).toUInt32).toInt32).toUInt32 >>> ((4 : Int32) &&& 31).toUInt32).toInt32)), .val (.int (11 : Int32))] [(.int ((11 : Int32) - ((((((u0.toUInt32 >>> ((16 : Int32) &&& 31).toUInt32).toInt32).toUInt32 >>> ((4 : Int32) &&& 31).toUInt32).toInt32).toUInt32 >>> ((1 : Int32) &&& 31).toUInt32).toInt32)))]))
            obtain ⟨fs, hr, hrun, hended, hW, hsame⟩ := X0.leave (v := some (.int ((11 : Int32) - ((((((u0.toUInt32 >>> ((16 : Int32) &&& 31).toUInt32).toInt32).toUInt32 >>> ((4 : Int32) &&& 31).toUInt32).toInt32).toUInt32 >>> ((1 : Int32) &&& 31).toUInt32).toInt32)))) (fun h => by rw [Bd.returns] at h; cases h)
            refine own_out (own_retI X0 hx Bd.returns (hb hby d4_78) hr) ⟨hrun, hended, _, _, rfl, ?_, ⟨_, rfl⟩, hW, hsame.mono (by decide) (by decide)⟩
            show Q4 Z u0 h0 n0 _ s₁.heap _
            have hv : own_z32 u0 = ((11 : Int32) - ((((((u0.toUInt32 >>> ((16 : Int32) &&& 31).toUInt32).toInt32).toUInt32 >>> ((4 : Int32) &&& 31).toUInt32).toInt32).toUInt32 >>> ((1 : Int32) &&& 31).toUInt32).toInt32)) := by
              unfold own_z32
              rw [if_pos hc1, if_neg hc2, if_pos hc10, if_neg hc11, if_pos hc13]
            exact ⟨by rw [hv], N0, e0⟩
          · skip
            refine own_st (fun _ k => XS.icmpNo X0.here hx rfl (hb hby d4_63) rfl (flt hc13).1 k) ?_
            show own_Go _ _ _ _ (s₁.setTop (mkF m 66 #[.val (.int ((((u0.toUInt32 >>> ((16 : Int32) &&& 31).toUInt32).toInt32).toUInt32 >>> ((4 : Int32) &&& 31).toUInt32).toInt32)), .val (.int (11 : Int32))] []))
            refine own_st (fun _ k => XS.iinc X0.here hx rfl (hb hby d4_66) rfl (l' := #[.val (.int ((((u0.toUInt32 >>> ((16 : Int32) &&& 31).toUInt32).toInt32).toUInt32 >>> ((4 : Int32) &&& 31).toUInt32).toInt32)), .val (.int (9 : Int32))]) rfl k) ?_
            show own_Go _ _ _ _ (s₁.setTop (mkF m 69 #[.val (.int ((((u0.toUInt32 >>> ((16 : Int32) &&& 31).toUInt32).toInt32).toUInt32 >>> ((4 : Int32) &&& 31).toUInt32).toInt32)), .val (.int (9 : Int32))] []))
            refine own_st (fun _ k => XS.iloadN X0.here hx rfl (hb hby d4_69) rfl k) ?_
            show own_Go _ _ _ _ (s₁.setTop (mkF m 70 #[.val (.int ((((u0.toUInt32 >>> ((16 : Int32) &&& 31).toUInt32).toInt32).toUInt32 >>> ((4 : Int32) &&& 31).toUInt32).toInt32)), .val (.int (9 : Int32))] [(.int ((((u0.toUInt32 >>> ((16 : Int32) &&& 31).toUInt32).toInt32).toUInt32 >>> ((4 : Int32) &&& 31).toUInt32).toInt32))]))
            refine own_st (fun _ k => XS.iconst X0.here hx rfl (hb hby d4_70) k) ?_
            show own_Go _ _ _ _ (s₁.setTop (mkF m 71 #[.val (.int ((((u0.toUInt32 >>> ((16 : Int32) &&& 31).toUInt32).toInt32).toUInt32 >>> ((4 : Int32) &&& 31).toUInt32).toInt32)), .val (.int (9 : Int32))] [(.int (2 : Int32)), (.int ((((u0.toUInt32 >>> ((16 : Int32) &&& 31).toUInt32).toInt32).toUInt32 >>> ((4 : Int32) &&& 31).toUInt32).toInt32))]))
            refine own_st (fun _ k => XS.iushr X0.here hx rfl (hb hby d4_71) rfl k) ?_
            show own_Go _ _ _ _ (s₁.setTop (mkF m 72 #[.val (.int ((((u0.toUInt32 >>> ((16 : Int32) &&& 31).toUInt32).toInt32).toUInt32 >>> ((4 : Int32) &&& 31).toUInt32).toInt32)), .val (.int (9 : Int32))] [(.int ((((((u0.toUInt32 >>> ((16 : Int32) &&& 31).toUInt32).toInt32).toUInt32 >>> ((4 : Int32) &&& 31).toUInt32).toInt32).toUInt32 >>> ((2 : Int32) &&& 31).toUInt32).toInt32))]))
            refine own_st (fun _ k => XS.istoreN X0.here hx rfl (hb hby d4_72) rfl (l' := #[.val (.int ((((((u0.toUInt32 >>> ((16 : Int32) &&& 31).toUInt32).toInt32).toUInt32 >>> ((4 : Int32) &&& 31).toUInt32).toInt32).toUInt32 >>> ((2 : Int32) &&& 31).toUInt32).toInt32)), .val (.int (9 : Int32))]) rfl k) ?_
            show own_Go _ _ _ _ (s₁.setTop (mkF m 73 #[.val (.int ((((((u0.toUInt32 >>> ((16 : Int32) &&& 31).toUInt32).toInt32).toUInt32 >>> ((4 : Int32) &&& 31).toUInt32).toInt32).toUInt32 >>> ((2 : Int32) &&& 31).toUInt32).toInt32)), .val (.int (9 : Int32))] []))
            refine own_st (fun _ k => XS.iloadN X0.here hx rfl (hb hby d4_73) rfl k) ?_
            show own_Go _ _ _ _ (s₁.setTop (mkF m 74 #[.val (.int ((((((u0.toUInt32 >>> ((16 : Int32) &&& 31).toUInt32).toInt32).toUInt32 >>> ((4 : Int32) &&& 31).toUInt32).toInt32).toUInt32 >>> ((2 : Int32) &&& 31).toUInt32).toInt32)), .val (.int (9 : Int32))] [(.int (9 : Int32))]))
            refine own_st (fun _ k => XS.iloadN X0.here hx rfl (hb hby d4_74) rfl k) ?_
            show own_Go _ _ _ _ (s₁.setTop (mkF m 75 #[.val (.int ((((((u0.toUInt32 >>> ((16 : Int32) &&& 31).toUInt32).toInt32).toUInt32 >>> ((4 : Int32) &&& 31).toUInt32).toInt32).toUInt32 >>> ((2 : Int32) &&& 31).toUInt32).toInt32)), .val (.int (9 : Int32))] [(.int ((((((u0.toUInt32 >>> ((16 : Int32) &&& 31).toUInt32).toInt32).toUInt32 >>> ((4 : Int32) &&& 31).toUInt32).toInt32).toUInt32 >>> ((2 : Int32) &&& 31).toUInt32).toInt32)), (.int (9 : Int32))]))
            refine own_st (fun _ k => XS.iconst X0.here hx rfl (hb hby d4_75) k) ?_
            show own_Go _ _ _ _ (s₁.setTop (mkF m 76 #[.val (.int ((((((u0.toUInt32 >>> ((16 : Int32) &&& 31).toUInt32).toInt32).toUInt32 >>> ((4 : Int32) &&& 31).toUInt32).toInt32).toUInt32 >>> ((2 : Int32) &&& 31).toUInt32).toInt32)), .val (.int (9 : Int32))] [(.int (1 : Int32)), (.int ((((((u0.toUInt32 >>> ((16 : Int32) &&& 31).toUInt32).toInt32).toUInt32 >>> ((4 : Int32) &&& 31).toUInt32).toInt32).toUInt32 >>> ((2 : Int32) &&& 31).toUInt32).toInt32)), (.int (9 : Int32))]))
            refine own_st (fun _ k => XS.iushr X0.here hx rfl (hb hby d4_76) rfl k) ?_
            show own_Go _ _ _ _ (s₁.setTop (mkF m 77 #[.val (.int ((((((u0.toUInt32 >>> ((16 : Int32) &&& 31).toUInt32).toInt32).toUInt32 >>> ((4 : Int32) &&& 31).toUInt32).toInt32).toUInt32 >>> ((2 : Int32) &&& 31).toUInt32).toInt32)), .val (.int (9 : Int32))] [(.int ((((((((u0.toUInt32 >>> ((16 : Int32) &&& 31).toUInt32).toInt32).toUInt32 >>> ((4 : Int32) &&& 31).toUInt32).toInt32).toUInt32 >>> ((2 : Int32) &&& 31).toUInt32).toInt32).toUInt32 >>> ((1 : Int32) &&& 31).toUInt32).toInt32)), (.int (9 : Int32))]))
            refine own_st (fun _ k => XS.isub X0.here hx rfl (hb hby d4_77) rfl k) ?_
            show own_Go _ _ _ _ (s₁.setTop (mkF m 78 #[.val (.int ((((((u0.toUInt32 >>> ((16 : Int32) &&& 31).toUInt32).toInt32).toUInt32 >>> ((4 : Int32) &&& 31).toUInt32).toInt32).toUInt32 >>> ((2 : Int32) &&& 31).toUInt32).toInt32)), .val (.int (9 : Int32))] [(.int ((9 : Int32) - ((((((((u0.toUInt32 >>> ((16 : Int32) &&& 31).toUInt32).toInt32).toUInt32 >>> ((4 : Int32) &&& 31).toUInt32).toInt32).toUInt32 >>> ((2 : Int32) &&& 31).toUInt32).toInt32).toUInt32 >>> ((1 : Int32) &&& 31).toUInt32).toInt32)))]))
            obtain ⟨fs, hr, hrun, hended, hW, hsame⟩ := X0.leave (v := some (.int ((9 : Int32) - ((((((((u0.toUInt32 >>> ((16 : Int32) &&& 31).toUInt32).toInt32).toUInt32 >>> ((4 : Int32) &&& 31).toUInt32).toInt32).toUInt32 >>> ((2 : Int32) &&& 31).toUInt32).toInt32).toUInt32 >>> ((1 : Int32) &&& 31).toUInt32).toInt32)))) (fun h => by rw [Bd.returns] at h; cases h)
            refine own_out (own_retI X0 hx Bd.returns (hb hby d4_78) hr) ⟨hrun, hended, _, _, rfl, ?_, ⟨_, rfl⟩, hW, hsame.mono (by decide) (by decide)⟩
            show Q4 Z u0 h0 n0 _ s₁.heap _
            have hv : own_z32 u0 = ((9 : Int32) - ((((((((u0.toUInt32 >>> ((16 : Int32) &&& 31).toUInt32).toInt32).toUInt32 >>> ((4 : Int32) &&& 31).toUInt32).toInt32).toUInt32 >>> ((2 : Int32) &&& 31).toUInt32).toInt32).toUInt32 >>> ((1 : Int32) &&& 31).toUInt32).toInt32)) := by
              unfold own_z32
              rw [if_pos hc1, if_neg hc2, if_pos hc10, if_neg hc11, if_neg hc13]
            exact ⟨by rw [hv], N0, e0⟩
      · skip
        refine own_st (fun _ k => XS.icmpNo X0.here hx rfl (hb hby d4_37) rfl (flt hc10).1 k) ?_
        show own_Go _ _ _ _ (s₁.setTop (mkF m 40 #[.val (.int ((u0.toUInt32 >>> ((16 : Int32) &&& 31).toUInt32).toInt32)), .val (.int (15 : Int32))] []))
        refine own_st (fun _ k => XS.iinc X0.here hx rfl (hb hby d4_40) rfl (l' := #[.val (.int ((u0.toUInt32 >>> ((16 : Int32) &&& 31).toUInt32).toInt32)), .val (.int (7 : Int32))]) rfl k) ?_
        show own_Go _ _ _ _ (s₁.setTop (mkF m 43 #[.val (.int ((u0.toUInt32 >>> ((16 : Int32) &&& 31).toUInt32).toInt32)), .val (.int (7 : Int32))] []))
        refine own_st (fun _ k => XS.iloadN X0.here hx rfl (hb hby d4_43) rfl k) ?_
        show own_Go _ _ _ _ (s₁.setTop (mkF m 44 #[.val (.int ((u0.toUInt32 >>> ((16 : Int32) &&& 31).toUInt32).toInt32)), .val (.int (7 : Int32))] [(.int ((u0.toUInt32 >>> ((16 : Int32) &&& 31).toUInt32).toInt32))]))
        refine own_st (fun _ k => XS.bipush X0.here hx rfl (hb hby d4_44) k) ?_
        show own_Go _ _ _ _ (s₁.setTop (mkF m 46 #[.val (.int ((u0.toUInt32 >>> ((16 : Int32) &&& 31).toUInt32).toInt32)), .val (.int (7 : Int32))] [(.int (8 : Int32)), (.int ((u0.toUInt32 >>> ((16 : Int32) &&& 31).toUInt32).toInt32))]))
        refine own_st (fun _ k => XS.iushr X0.here hx rfl (hb hby d4_46) rfl k) ?_
        show own_Go _ _ _ _ (s₁.setTop (mkF m 47 #[.val (.int ((u0.toUInt32 >>> ((16 : Int32) &&& 31).toUInt32).toInt32)), .val (.int (7 : Int32))] [(.int ((((u0.toUInt32 >>> ((16 : Int32) &&& 31).toUInt32).toInt32).toUInt32 >>> ((8 : Int32) &&& 31).toUInt32).toInt32))]))
        refine own_st (fun _ k => XS.istoreN X0.here hx rfl (hb hby d4_47) rfl (l' := #[.val (.int ((((u0.toUInt32 >>> ((16 : Int32) &&& 31).toUInt32).toInt32).toUInt32 >>> ((8 : Int32) &&& 31).toUInt32).toInt32)), .val (.int (7 : Int32))]) rfl k) ?_
        show own_Go _ _ _ _ (s₁.setTop (mkF m 48 #[.val (.int ((((u0.toUInt32 >>> ((16 : Int32) &&& 31).toUInt32).toInt32).toUInt32 >>> ((8 : Int32) &&& 31).toUInt32).toInt32)), .val (.int (7 : Int32))] []))
        refine own_st (fun _ k => XS.iloadN X0.here hx rfl (hb hby d4_48) rfl k) ?_
        show own_Go _ _ _ _ (s₁.setTop (mkF m 49 #[.val (.int ((((u0.toUInt32 >>> ((16 : Int32) &&& 31).toUInt32).toInt32).toUInt32 >>> ((8 : Int32) &&& 31).toUInt32).toInt32)), .val (.int (7 : Int32))] [(.int ((((u0.toUInt32 >>> ((16 : Int32) &&& 31).toUInt32).toInt32).toUInt32 >>> ((8 : Int32) &&& 31).toUInt32).toInt32))]))
        refine own_st (fun _ k => XS.bipush X0.here hx rfl (hb hby d4_49) k) ?_
        show own_Go _ _ _ _ (s₁.setTop (mkF m 51 #[.val (.int ((((u0.toUInt32 >>> ((16 : Int32) &&& 31).toUInt32).toInt32).toUInt32 >>> ((8 : Int32) &&& 31).toUInt32).toInt32)), .val (.int (7 : Int32))] [(.int (16 : Int32)), (.int ((((u0.toUInt32 >>> ((16 : Int32) &&& 31).toUInt32).toInt32).toUInt32 >>> ((8 : Int32) &&& 31).toUInt32).toInt32))]))
        by_cases hc14 : ((((u0.toUInt32 >>> ((16 : Int32) &&& 31).toUInt32).toInt32).toUInt32 >>> ((8 : Int32) &&& 31).toUInt32).toInt32) < (16 : Int32)
        · skip
          refine own_st (fun _ k => XS.icmpYes X0.here hx rfl (pc0 := 51) (pc' := 61) rfl (hb hby d4_51) rfl (tlt hc14).1 (by decide) (by decide) k) ?_
          show own_Go _ _ _ _ (s₁.setTop (mkF m 61 #[.val (.int ((((u0.toUInt32 >>> ((16 : Int32) &&& 31).toUInt32).toInt32).toUInt32 >>> ((8 : Int32) &&& 31).toUInt32).toInt32)), .val (.int (7 : Int32))] []))
          refine own_st (fun _ k => XS.iloadN X0.here hx rfl (hb hby d4_61) rfl k) ?_
          show own_Go _ _ _ _ (s₁.setTop (mkF m 62 #[.val (.int ((((u0.toUInt32 >>> ((16 : Int32) &&& 31).toUInt32).toInt32).toUInt32 >>> ((8 : Int32) &&& 31).toUInt32).toInt32)), .val (.int (7 : Int32))] [(.int ((((u0.toUInt32 >>> ((16 : Int32) &&& 31).toUInt32).toInt32).toUInt32 >>> ((8 : Int32) &&& 31).toUInt32).toInt32))]))
          refine own_st (fun _ k => XS.iconst X0.here hx rfl (hb hby d4_62) k) ?_
          show own_Go _ _ _ _ (s₁.setTop (mkF m 63 #[.val (.int ((((u0.toUInt32 >>> ((16 : Int32) &&& 31).toUInt32).toInt32).toUInt32 >>> ((8 : Int32) &&& 31).toUInt32).toInt32)), .val (.int (7 : Int32))] [(.int (4 : Int32)), (.int ((((u0.toUInt32 >>> ((16 : Int32) &&& 31).toUInt32).toInt32).toUInt32 >>> ((8 : Int32) &&& 31).toUInt32).toInt32))]))
          by_cases hc15 : ((((u0.toUInt32 >>> ((16 : Int32) &&& 31).toUInt32).toInt32).toUInt32 >>> ((8 : Int32) &&& 31).toUInt32).toInt32) < (4 : Int32)
          · skip
            refine own_st (fun _ k => XS.icmpYes X0.here hx rfl (pc0 := 63) (pc' := 73) rfl (hb hby d4_63) rfl (tlt hc15).1 (by decide) (by decide) k) ?_
            show own_Go _ _ _ _ (s₁.setTop (mkF m 73 #[.val (.int ((((u0.toUInt32 >>> ((16 : Int32) &&& 31).toUInt32).toInt32).toUInt32 >>> ((8 : Int32) &&& 31).toUInt32).toInt32)), .val (.int (7 : Int32))] []))
            refine own_st (fun _ k => XS.iloadN X0.here hx rfl (hb hby d4_73) rfl k) ?_
            show own_Go _ _ _ _ (s₁.setTop (mkF m 74 #[.val (.int ((((u0.toUInt32 >>> ((16 : Int32) &&& 31).toUInt32).toInt32).toUInt32 >>> ((8 : Int32) &&& 31).toUInt32).toInt32)), .val (.int (7 : Int32))] [(.int (7 : Int32))]))
            refine own_st (fun _ k => XS.iloadN X0.here hx rfl (hb hby d4_74) rfl k) ?_
            show own_Go _ _ _ _ (s₁.setTop (mkF m 75 #[.val (.int ((((u0.toUInt32 >>> ((16 : Int32) &&& 31).toUInt32).toInt32).toUInt32 >>> ((8 : Int32) &&& 31).toUInt32).toInt32)), .val (.int (7 : Int32))] [(.int ((((u0.toUInt32 >>> ((16 : Int32) &&& 31).toUInt32).toInt32).toUInt32 >>> ((8 : Int32) &&& 31).toUInt32).toInt32)), (.int (7 : Int32))]))
            refine own_st (fun _ k => XS.iconst X0.here hx rfl (hb hby d4_75) k) ?_
            show own_Go _ _ _ _ (s₁.setTop (mkF m 76 #[.val (.int ((((u0.toUInt32 >>> ((16 : Int32) &&& 31).toUInt32).toInt32).toUInt32 >>> ((8 : Int32) &&& 31).toUInt32).toInt32)), .val (.int (7 : Int32))] [(.int (1 : Int32)), (.int ((((u0.toUInt32 >>> ((16 : Int32) &&& 31).toUInt32).toInt32).toUInt32 >>> ((8 : Int32) &&& 31).toUInt32).toInt32)), (.int (7 : Int32))]))
            refine own_st (fun _ k => XS.iushr X0.here hx rfl (hb hby d4_76) rfl k) ?_
            show own_Go _ _ _ _ (s₁.setTop (mkF m 77 #[.val (.int ((((u0.toUInt32 >>> ((16 : Int32) &&& 31).toUInt32).toInt32).toUInt32 >>> ((8 : Int32) &&& 31).toUInt32).toInt32)), .val (.int (7 : Int32))] [(.int ((((((u0.toUInt32 >>> ((16 : Int32) &&& 31).toUInt32).toInt32).toUInt32 >>> ((8 : Int32) &&& 31).toUInt32).toInt32).toUInt32 >>> ((1 : Int32) &&& 31).toUInt32).toInt32)), (.int (7 : Int32))]))
            refine own_st (fun _ k => XS.isub X0.here hx rfl (hb hby d4_77) rfl k) ?_
            show own_Go _ _ _ _ (s₁.setTop (mkF m 78 #[.val (.int ((((u0.toUInt32 >>> ((16 : Int32) &&& 31).toUInt32).toInt32).toUInt32 >>> ((8 : Int32) &&& 31).toUInt32).toInt32)), .val (.int (7 : Int32))] [(.int ((7 : Int32) - ((((((u0.toUInt32 >>> ((16 : Int32) &&& 31).toUInt32).toInt32).toUInt32 >>> ((8 : Int32) &&& 31).toUInt32).toInt32).toUInt32 >>> ((1 : Int32) &&& 31).toUInt32).toInt32)))]))
            obtain ⟨fs, hr, hrun, hended, hW, hsame⟩ := X0.leave (v := some (.int ((7 : Int32) - ((((((u0.toUInt32 >>> ((16 : Int32) &&& 31).toUInt32).toInt32).toUInt32 >>> ((8 : Int32) &&& 31).toUInt32).toInt32).toUInt32 >>> ((1 : Int32) &&& 31).toUInt32).toInt32)))) (fun h => by rw [Bd.returns] at h; cases h)
            refine own_out (own_retI X0 hx Bd.returns (hb hby d4_78) hr) ⟨hrun, hended, _, _, rfl, ?_, ⟨_, rfl⟩, hW, hsame.mono (by decide) (by decide)⟩
            show Q4 Z u0 h0 n0 _ s₁.heap _
            have hv : own_z32 u0 = ((7 : Int32) - ((((((u0.toUInt32 >>> ((16 : Int32) &&& 31).toUInt32).toInt32).toUInt32 >>> ((8 : Int32) &&& 31).toUInt32).toInt32).toUInt32 >>> ((1 : Int32) &&& 31).toUInt32).toInt32)) := by
              unfold own_z32
              rw [if_pos hc1, if_neg hc2, if_neg hc10, if_pos hc14, if_pos hc15]
            exact ⟨by rw [hv], N0, e0⟩
          · skip
            refine own_st (fun _ k => XS.icmpNo X0.here hx rfl (hb hby d4_63) rfl (flt hc15).1 k) ?_
            show own_Go _ _ _ _ (s₁.setTop (mkF m 66 #[.val (.int ((((u0.toUInt32 >>> ((16 : Int32) &&& 31).toUInt32).toInt32).toUInt32 >>> ((8 : Int32) &&& 31).toUInt32).toInt32)), .val (.int (7 : Int32))] []))
            refine own_st (fun _ k => XS.iinc X0.here hx rfl (hb hby d4_66) rfl (l' := #[.val (.int ((((u0.toUInt32 >>> ((16 : Int32) &&& 31).toUInt32).toInt32).toUInt32 >>> ((8 : Int32) &&& 31).toUInt32).toInt32)), .val (.int (5 : Int32))]) rfl k) ?_
            show own_Go _ _ _ _ (s₁.setTop (mkF m 69 #[.val (.int ((((u0.toUInt32 >>> ((16 : Int32) &&& 31).toUInt32).toInt32).toUInt32 >>> ((8 : Int32) &&& 31).toUInt32).toInt32)), .val (.int (5 : Int32))] []))
            refine own_st (fun _ k => XS.iloadN X0.here hx rfl (hb hby d4_69) rfl k) ?_
            show own_Go _ _ _ _ (s₁.setTop (mkF m 70 #[.val (.int ((((u0.toUInt32 >>> ((16 : Int32) &&& 31).toUInt32).toInt32).toUInt32 >>> ((8 : Int32) &&& 31).toUInt32).toInt32)), .val (.int (5 : Int32))] [(.int ((((u0.toUInt32 >>> ((16 : Int32) &&& 31).toUInt32).toInt32).toUInt32 >>> ((8 : Int32) &&& 31).toUInt32).toInt32))]))
            refine own_st (fun _ k => XS.iconst X0.here hx rfl (hb hby d4_70) k) ?_
            show own_Go _ _ _ _ (s₁.setTop (mkF m 71 #[.val (.int ((((u0.toUInt32 >>> ((16 : Int32) &&& 31).toUInt32).toInt32).toUInt32 >>> ((8 : Int32) &&& 31).toUInt32).toInt32)), .val (.int (5 : Int32))] [(.int (2 : Int32)), (.int ((((u0.toUInt32 >>> ((16 : Int32) &&& 31).toUInt32).toInt32).toUInt32 >>> ((8 : Int32) &&& 31).toUInt32).toInt32))]))
            refine own_st (fun _ k => XS.iushr X0.here hx rfl (hb hby d4_71) rfl k) ?_
            show own_Go _ _ _ _ (s₁.setTop (mkF m 72 #[.val (.int ((((u0.toUInt32 >>> ((16 : Int32) &&& 31).toUInt32).toInt32).toUInt32 >>> ((8 : Int32) &&& 31).toUInt32).toInt32)), .val (.int (5 : Int32))] [(.int ((((((u0.toUInt32 >>> ((16 : Int32) &&& 31).toUInt32).toInt32).toUInt32 >>> ((8 : Int32) &&& 31).toUInt32).toInt32).toUInt32 >>> ((2 : Int32) &&& 31).toUInt32).toInt32))]))
            refine own_st (fun _ k => XS.istoreN X0.here hx rfl (hb hby d4_72) rfl (l' := #[.val (.int ((((((u0.toUInt32 >>> ((16 : Int32) &&& 31).toUInt32).toInt32).toUInt32 >>> ((8 : Int32) &&& 31).toUInt32).toInt32).toUInt32 >>> ((2 : Int32) &&& 31).toUInt32).toInt32)), .val (.int (5 : Int32))]) rfl k) ?_
            show own_Go _ _ _ _ (s₁.setTop (mkF m 73 #[.val (.int ((((((u0.toUInt32 >>> ((16 : Int32) &&& 31).toUInt32).toInt32).toUInt32 >>> ((8 : Int32) &&& 31).toUInt32).toInt32).toUInt32 >>> ((2 : Int32) &&& 31).toUInt32).toInt32)), .val (.int (5 : Int32))] []))
            refine own_st (fun _ k => XS.iloadN X0.here hx rfl (hb hby d4_73) rfl k) ?_
            show own_Go _ _ _ _ (s₁.setTop (mkF m 74 #[.val (.int ((((((u0.toUInt32 >>> ((16 : Int32) &&& 31).toUInt32).toInt32).toUInt32 >>> ((8 : Int32) &&& 31).toUInt32).toInt32).toUInt32 >>> ((2 : Int32) &&& 31).toUInt32).toInt32)), .val (.int (5 : Int32))] [(.int (5 : Int32))]))
            refine own_st (fun _ k => XS.iloadN X0.here hx rfl (hb hby d4_74) rfl k) ?_
            show own_Go _ _ _ _ (s₁.setTop (mkF m 75 #[.val (.int ((((((u0.toUInt32 >>> ((16 : Int32) &&& 31).toUInt32).toInt32).toUInt32 >>> ((8 : Int32) &&& 31).toUInt32).toInt32).toUInt32 >>> ((2 : Int32) &&& 31).toUInt32).toInt32)), .val (.int (5 : Int32))] [(.int ((((((u0.toUInt32 >>> ((16 : Int32) &&& 31).toUInt32).toInt32).toUInt32 >>> ((8 : Int32) &&& 31).toUInt32).toInt32).toUInt32 >>> ((2 : Int32) &&& 31).toUInt32).toInt32)), (.int (5 : Int32))]))
            refine own_st (fun _ k => XS.iconst X0.here hx rfl (hb hby d4_75) k) ?_
            show own_Go _ _ _ _ (s₁.setTop (mkF m 76 #[.val (.int ((((((u0.toUInt32 >>> ((16 : Int32) &&& 31).toUInt32).toInt32).toUInt32 >>> ((8 : Int32) &&& 31).toUInt32).toInt32).toUInt32 >>> ((2 : Int32) &&& 31).toUInt32).toInt32)), .val (.int (5 : Int32))] [(.int (1 : Int32)), (.int ((((((u0.toUInt32 >>> ((16 : Int32) &&& 31).toUInt32).toInt32).toUInt32 >>> ((8 : Int32) &&& 31).toUInt32).toInt32).toUInt32 >>> ((2 : Int32) &&& 31).toUInt32).toInt32)), (.int (5 : Int32))]))
            refine own_st (fun _ k => XS.iushr X0.here hx rfl (hb hby d4_76) rfl k) ?_
            show own_Go _ _ _ _ (s₁.setTop (mkF m 77 #[.val (.int ((((((u0.toUInt32 >>> ((16 : Int32) &&& 31).toUInt32).toInt32).toUInt32 >>> ((8 : Int32) &&& 31).toUInt32).toInt32).toUInt32 >>> ((2 : Int32) &&& 31).toUInt32).toInt32)), .val (.int (5 : Int32))] [(.int ((((((((u0.toUInt32 >>> ((16 : Int32) &&& 31).toUInt32).toInt32).toUInt32 >>> ((8 : Int32) &&& 31).toUInt32).toInt32).toUInt32 >>> ((2 : Int32) &&& 31).toUInt32).toInt32).toUInt32 >>> ((1 : Int32) &&& 31).toUInt32).toInt32)), (.int (5 : Int32))]))
            refine own_st (fun _ k => XS.isub X0.here hx rfl (hb hby d4_77) rfl k) ?_
            show own_Go _ _ _ _ (s₁.setTop (mkF m 78 #[.val (.int ((((((u0.toUInt32 >>> ((16 : Int32) &&& 31).toUInt32).toInt32).toUInt32 >>> ((8 : Int32) &&& 31).toUInt32).toInt32).toUInt32 >>> ((2 : Int32) &&& 31).toUInt32).toInt32)), .val (.int (5 : Int32))] [(.int ((5 : Int32) - ((((((((u0.toUInt32 >>> ((16 : Int32) &&& 31).toUInt32).toInt32).toUInt32 >>> ((8 : Int32) &&& 31).toUInt32).toInt32).toUInt32 >>> ((2 : Int32) &&& 31).toUInt32).toInt32).toUInt32 >>> ((1 : Int32) &&& 31).toUInt32).toInt32)))]))
            obtain ⟨fs, hr, hrun, hended, hW, hsame⟩ := X0.leave (v := some (.int ((5 : Int32) - ((((((((u0.toUInt32 >>> ((16 : Int32) &&& 31).toUInt32).toInt32).toUInt32 >>> ((8 : Int32) &&& 31).toUInt32).toInt32).toUInt32 >>> ((2 : Int32) &&& 31).toUInt32).toInt32).toUInt32 >>> ((1 : Int32) &&& 31).toUInt32).toInt32)))) (fun h => by rw [Bd.returns] at h; cases h)
            refine own_out (own_retI X0 hx Bd.returns (hb hby d4_78) hr) ⟨hrun, hended, _, _, rfl, ?_, ⟨_, rfl⟩, hW, hsame.mono (by decide) (by decide)⟩
            show Q4 Z u0 h0 n0 _ s₁.heap _
            have hv : own_z32 u0 = ((5 : Int32) - ((((((((u0.toUInt32 >>> ((16 : Int32) &&& 31).toUInt32).toInt32).toUInt32 >>> ((8 : Int32) &&& 31).toUInt32).toInt32).toUInt32 >>> ((2 : Int32) &&& 31).toUInt32).toInt32).toUInt32 >>> ((1 : Int32) &&& 31).toUInt32).toInt32)) := by
              unfold own_z32
              rw [if_pos hc1, if_neg hc2, if_neg hc10, if_pos hc14, if_neg hc15]
            exact ⟨by rw [hv], N0, e0⟩
        · skip
          refine own_st (fun _ k => XS.icmpNo X0.here hx rfl (hb hby d4_51) rfl (flt hc14).1 k) ?_
          show own_Go _ _ _ _ (s₁.setTop (mkF m 54 #[.val (.int ((((u0.toUInt32 >>> ((16 : Int32) &&& 31).toUInt32).toInt32).toUInt32 >>> ((8 : Int32) &&& 31).toUInt32).toInt32)), .val (.int (7 : Int32))] []))
          refine own_st (fun _ k => XS.iinc X0.here hx rfl (hb hby d4_54) rfl (l' := #[.val (.int ((((u0.toUInt32 >>> ((16 : Int32) &&& 31).toUInt32).toInt32).toUInt32 >>> ((8 : Int32) &&& 31).toUInt32).toInt32)), .val (.int (3 : Int32))]) rfl k) ?_
          show own_Go _ _ _ _ (s₁.setTop (mkF m 57 #[.val (.int ((((u0.toUInt32 >>> ((16 : Int32) &&& 31).toUInt32).toInt32).toUInt32 >>> ((8 : Int32) &&& 31).toUInt32).toInt32)), .val (.int (3 : Int32))] []))
          refine own_st (fun _ k => XS.iloadN X0.here hx rfl (hb hby d4_57) rfl k) ?_
          show own_Go _ _ _ _ (s₁.setTop (mkF m 58 #[.val (.int ((((u0.toUInt32 >>> ((16 : Int32) &&& 31).toUInt32).toInt32).toUInt32 >>> ((8 : Int32) &&& 31).toUInt32).toInt32)), .val (.int (3 : Int32))] [(.int ((((u0.toUInt32 >>> ((16 : Int32) &&& 31).toUInt32).toInt32).toUInt32 >>> ((8 : Int32) &&& 31).toUInt32).toInt32))]))
          refine own_st (fun _ k => XS.iconst X0.here hx rfl (hb hby d4_58) k) ?_
          show own_Go _ _ _ _ (s₁.setTop (mkF m 59 #[.val (.int ((((u0.toUInt32 >>> ((16 : Int32) &&& 31).toUInt32).toInt32).toUInt32 >>> ((8 : Int32) &&& 31).toUInt32).toInt32)), .val (.int (3 : Int32))] [(.int (4 : Int32)), (.int ((((u0.toUInt32 >>> ((16 : Int32) &&& 31).toUInt32).toInt32).toUInt32 >>> ((8 : Int32) &&& 31).toUInt32).toInt32))]))
          refine own_st (fun _ k => XS.iushr X0.here hx rfl (hb hby d4_59) rfl k) ?_
          show own_Go _ _ _ _ (s₁.setTop (mkF m 60 #[.val (.int ((((u0.toUInt32 >>> ((16 : Int32) &&& 31).toUInt32).toInt32).toUInt32 >>> ((8 : Int32) &&& 31).toUInt32).toInt32)), .val (.int (3 : Int32))] [(.int ((((((u0.toUInt32 >>> ((16 : Int32) &&& 31).toUInt32).toInt32).toUInt32 >>> ((8 : Int32) &&& 31).toUInt32).toInt32).toUInt32 >>> ((4 : Int32) &&& 31).toUInt32).toInt32))]))
          refine own_st (fun _ k => XS.istoreN X0.here hx rfl (hb hby d4_60) rfl (l' := #[.val (.int ((((((u0.toUInt32 >>> ((16 : Int32) &&& 31).toUInt32).toInt32).toUInt32 >>> ((8 : Int32) &&& 31).toUInt32).toInt32).toUInt32 >>> ((4 : Int32) &&& 31).toUInt32).toInt32)), .val (.int (3 : Int32))]) rfl k) ?_
          show own_Go _ _ _ _ (s₁.setTop (mkF m 61 #[.val (.int ((((((u0.toUInt32 >>> ((16 : Int32) &&& 31).toUInt32).toInt32).toUInt32 >>> ((8 : Int32) &&& 31).toUInt32).toInt32).toUInt32 >>> ((4 : Int32) &&& 31).toUInt32).toInt32)), .val (.int (3 : Int32))] []))
          refine own_st (fun _ k => XS.iloadN X0.here hx rfl (hb hby d4_61) rfl k) ?_
          show own_Go _ _ _ _ (s₁.setTop (mkF m 62 #[.val (.int ((((((u0.toUInt32 >>> ((16 : Int32) &&& 31).toUInt32).toInt32).toUInt32 >>> ((8 : Int32) &&& 31).toUInt32).toInt32).toUInt32 >>> ((4 : Int32) &&& 31).toUInt32).toInt32)), .val (.int (3 : Int32))] [(.int ((((((u0.toUInt32 >>> ((16 : Int32) &&& 31).toUInt32).toInt32).toUInt32 >>> ((8 : Int32) &&& 31).toUInt32).toInt32).toUInt32 >>> ((4 : Int32) &&& 31).toUInt32).toInt32))]))
          refine own_st (fun _ k => XS.iconst X0.here hx rfl (hb hby d4_62) k) ?_
          show own_Go _ _ _ _ (s₁.setTop (mkF m 63 #[.val (.int ((((((u0.toUInt32 >>> ((16 : Int32) &&& 31).toUInt32).toInt32).toUInt32 >>> ((8 : Int32) &&& 31).toUInt32).toInt32).toUInt32 >>> ((4 : Int32) &&& 31).toUInt32).toInt32)), .val (.int (3 : Int32))] [(.int (4 : Int32)), (.int ((((((u0.toUInt32 >>> ((16 : Int32) &&& 31).toUInt32).toInt32).toUInt32 >>> ((8 : Int32) &&& 31).toUInt32).toInt32).toUInt32 >>> ((4 : Int32) &&& 31).toUInt32).toInt32))]))
          by_cases hc16 : ((((((u0.toUInt32 >>> ((16 : Int32) &&& 31).toUInt32).toInt32).toUInt32 >>> ((8 : Int32) &&& 31).toUInt32).toInt32).toUInt32 >>> ((4 : Int32) &&& 31).toUInt32).toInt32) < (4 : Int32)
          · skip
            refine own_st (fun _ k => XS.icmpYes X0.here hx rfl (pc0 := 63) (pc' := 73) rfl (hb hby d4_63) rfl (tlt hc16).1 (by decide) (by decide) k) ?_
            show own_Go _ _ _ _ (s₁.setTop (mkF m 73 #[.val (.int ((((((u0.toUInt32 >>> ((16 : Int32) &&& 31).toUInt32).toInt32).toUInt32 >>> ((8 : Int32) &&& 31).toUInt32).toInt32).toUInt32 >>> ((4 : Int32) &&& 31).toUInt32).toInt32)), .val (.int (3 : Int32))] []))
            refine own_st (fun _ k => XS.iloadN X0.here hx rfl (hb hby d4_73) rfl k) ?_
            show own_Go _ _ _ _ (s₁.setTop (mkF m 74 #[.val (.int ((((((u0.toUInt32 >>> ((16 : Int32) &&& 31).toUInt32).toInt32).toUInt32 >>> ((8 : Int32) &&& 31).toUInt32).toInt32).toUInt32 >>> ((4 : Int32) &&& 31).toUInt32).toInt32)), .val (.int (3 : Int32))] [(.int (3 : Int32))]))
            refine own_st (fun _ k => XS.iloadN X0.here hx rfl (hb hby d4_74) rfl k) ?_
            show own_Go _ _ _ _ (s₁.setTop (mkF m 75 #[.val (.int ((((((u0.toUInt32 >>> ((16 : Int32) &&& 31).toUInt32).toInt32).toUInt32 >>> ((8 : Int32) &&& 31).toUInt32).toInt32).toUInt32 >>> ((4 : Int32) &&& 31).toUInt32).toInt32)), .val (.int (3 : Int32))] [(.int ((((((u0.toUInt32 >>> ((16 : Int32) &&& 31).toUInt32).toInt32).toUInt32 >>> ((8 : Int32) &&& 31).toUInt32).toInt32).toUInt32 >>> ((4 : Int32) &&& 31).toUInt32).toInt32)), (.int (3 : Int32))]))
            refine own_st (fun _ k => XS.iconst X0.here hx rfl (hb hby d4_75) k) ?_
            show own_Go _ _ _ _ (s₁.setTop (mkF m 76 #[.val (.int ((((((u0.toUInt32 >>> ((16 : Int32) &&& 31).toUInt32).toInt32).toUInt32 >>> ((8 : Int32) &&& 31).toUInt32).toInt32).toUInt32 >>> ((4 : Int32) &&& 31).toUInt32).toInt32)), .val (.int (3 : Int32))] [(.int (1 : Int32)), (.int ((((((u0.toUInt32 >>> ((16 : Int32) &&& 31).toUInt32).toInt32).toUInt32 >>> ((8 : Int32) &&& 31).toUInt32).toInt32).toUInt32 >>> ((4 : Int32) &&& 31).toUInt32).toInt32)), (.int (3 : Int32))]))
            refine own_st (fun _ k => XS.iushr X0.here hx rfl (hb hby d4_76) rfl k) ?_
            show own_Go _ _ _ _ (s₁.setTop (mkF m 77 #[.val (.int ((((((u0.toUInt32 >>> ((16 : Int32) &&& 31).toUInt32).toInt32).toUInt32 >>> ((8 : Int32) &&& 31).toUInt32).toInt32).toUInt32 >>> ((4 : Int32) &&& 31).toUInt32).toInt32)), .val (.int (3 : Int32))] [(.int ((((((((u0.toUInt32 >>> ((16 : Int32) &&& 31).toUInt32).toInt32).toUInt32 >>> ((8 : Int32) &&& 31).toUInt32).toInt32).toUInt32 >>> ((4 : Int32) &&& 31).toUInt32).toInt32).toUInt32 >>> ((1 : Int32) &&& 31).toUInt32).toInt32)), (.int (3 : Int32))]))
            refine own_st (fun _ k => XS.isub X0.here hx rfl (hb hby d4_77) rfl k) ?_
            show own_Go _ _ _ _ (s₁.setTop (mkF m 78 #[.val (.int ((((((u0.toUInt32 >>> ((16 : Int32) &&& 31).toUInt32).toInt32).toUInt32 >>> ((8 : Int32) &&& 31).toUInt32).toInt32).toUInt32 >>> ((4 : Int32) &&& 31).toUInt32).toInt32)), .val (.int (3 : Int32))] [(.int ((3 : Int32) - ((((((((u0.toUInt32 >>> ((16 : Int32) &&& 31).toUInt32).toInt32).toUInt32 >>> ((8 : Int32) &&& 31).toUInt32).toInt32).toUInt32 >>> ((4 : Int32) &&& 31).toUInt32).toInt32).toUInt32 >>> ((1 : Int32) &&& 31).toUInt32).toInt32)))]))
            obtain ⟨fs, hr, hrun, hended, hW, hsame⟩ := X0.leave (v := some (.int ((3 : Int32) - ((((((((u0.toUInt32 >>> ((16 : Int32) &&& 31).toUInt32).toInt32).toUInt32 >>> ((8 : Int32) &&& 31).toUInt32).toInt32).toUInt32 >>> ((4 : Int32) &&& 31).toUInt32).toInt32).toUInt32 >>> ((1 : Int32) &&& 31).toUInt32).toInt32)))) (fun h => by rw [Bd.returns] at h; cases h)
            refine own_out (own_retI X0 hx Bd.returns (hb hby d4_78) hr) ⟨hrun, hended, _, _, rfl, ?_, ⟨_, rfl⟩, hW, hsame.mono (by decide) (by decide)⟩
            show Q4 Z u0 h0 n0 _ s₁.heap _
            have hv : own_z32 u0 = ((3 : Int32) - ((((((((u0.toUInt32 >>> ((16 : Int32) &&& 31).toUInt32).toInt32).toUInt32 >>> ((8 : Int32) &&& 31).toUInt32).toInt32).toUInt32 >>> ((4 : Int32) &&& 31).toUInt32).toInt32).toUInt32 >>> ((1 : Int32) &&& 31).toUInt32).toInt32)) := by
              unfold own_z32
              rw [if_pos hc1, if_neg hc2, if_neg hc10, if_neg hc14, if_pos hc16]
            exact ⟨by rw [hv], N0, e0⟩
          · skip
            refine own_st (fun _ k => XS.icmpNo X0.here hx rfl (hb hby d4_63) rfl (flt hc16).1 k) ?_
            show own_Go _ _ _ _ (s₁.setTop (mkF m 66 #[.val (.int ((((((u0.toUInt32 >>> ((16 : Int32) &&& 31).toUInt32).toInt32).toUInt32 >>> ((8 : Int32) &&& 31).toUInt32).toInt32).toUInt32 >>> ((4 : Int32) &&& 31).toUInt32).toInt32)), .val (.int (3 : Int32))] []))
            refine own_st (fun _ k => XS.iinc X0.here hx rfl (hb hby d4_66) rfl (l' := #[.val (.int ((((((u0.toUInt32 >>> ((16 : Int32) &&& 31).toUInt32).toInt32).toUInt32 >>> ((8 : Int32) &&& 31).toUInt32).toInt32).toUInt32 >>> ((4 : Int32) &&& 31).toUInt32).toInt32)), .val (.int (1 : Int32))]) rfl k) ?_
            show own_Go _ _ _ _ (s₁.setTop (mkF m 69 #[.val (.int ((((((u0.toUInt32 >>> ((16 : Int32) &&& 31).toUInt32).toInt32).toUInt32 >>> ((8 : Int32) &&& 31).toUInt32).toInt32).toUInt32 >>> ((4 : Int32) &&& 31).toUInt32).toInt32)), .val (.int (1 : Int32))] []))
            refine own_st (fun _ k => XS.iloadN X0.here hx rfl (hb hby d4_69) rfl k) ?_
            show own_Go _ _ _ _ (s₁.setTop (mkF m 70 #[.val (.int ((((((u0.toUInt32 >>> ((16 : Int32) &&& 31).toUInt32).toInt32).toUInt32 >>> ((8 : Int32) &&& 31).toUInt32).toInt32).toUInt32 >>> ((4 : Int32) &&& 31).toUInt32).toInt32)), .val (.int (1 : Int32))] [(.int ((((((u0.toUInt32 >>> ((16 : Int32) &&& 31).toUInt32).toInt32).toUInt32 >>> ((8 : Int32) &&& 31).toUInt32).toInt32).toUInt32 >>> ((4 : Int32) &&& 31).toUInt32).toInt32))]))
            refine own_st (fun _ k => XS.iconst X0.here hx rfl (hb hby d4_70) k) ?_
            show own_Go _ _ _ _ (s₁.setTop (mkF m 71 #[.val (.int ((((((u0.toUInt32 >>> ((16 : Int32) &&& 31).toUInt32).toInt32).toUInt32 >>> ((8 : Int32) &&& 31).toUInt32).toInt32).toUInt32 >>> ((4 : Int32) &&& 31).toUInt32).toInt32)), .val (.int (1 : Int32))] [(.int (2 : Int32)), (.int ((((((u0.toUInt32 >>> ((16 : Int32) &&& 31).toUInt32).toInt32).toUInt32 >>> ((8 : Int32) &&& 31).toUInt32).toInt32).toUInt32 >>> ((4 : Int32) &&& 31).toUInt32).toInt32))]))
            refine own_st (fun _ k => XS.iushr X0.here hx rfl (hb hby d4_71) rfl k) ?_
            show own_Go _ _ _ _ (s₁.setTop (mkF m 72 #[.val (.int ((((((u0.toUInt32 >>> ((16 : Int32) &&& 31).toUInt32).toInt32).toUInt32 >>> ((8 : Int32) &&& 31).toUInt32).toInt32).toUInt32 >>> ((4 : Int32) &&& 31).toUInt32).toInt32)), .val (.int (1 : Int32))] [(.int ((((((((u0.toUInt32 >>> ((16 : Int32) &&& 31).toUInt32).toInt32).toUInt32 >>> ((8 : Int32) &&& 31).toUInt32).toInt32).toUInt32 >>> ((4 : Int32) &&& 31).toUInt32).toInt32).toUInt32 >>> ((2 : Int32) &&& 31).toUInt32).toInt32))]))
            refine own_st (fun _ k => XS.istoreN X0.here hx rfl (hb hby d4_72) rfl (l' := #[.val (.int ((((((((u0.toUInt32 >>> ((16 : Int32) &&& 31).toUInt32).toInt32).toUInt32 >>> ((8 : Int32) &&& 31).toUInt32).toInt32).toUInt32 >>> ((4 : Int32) &&& 31).toUInt32).toInt32).toUInt32 >>> ((2 : Int32) &&& 31).toUInt32).toInt32)), .val (.int (1 : Int32))]) rfl k) ?_
            show own_Go _ _ _ _ (s₁.setTop (mkF m 73 #[.val (.int ((((((((u0.toUInt32 >>> ((16 : Int32) &&& 31).toUInt32).toInt32).toUInt32 >>> ((8 : Int32) &&& 31).toUInt32).toInt32).toUInt32 >>> ((4 : Int32) &&& 31).toUInt32).toInt32).toUInt32 >>> ((2 : Int32) &&& 31).toUInt32).toInt32)), .val (.int (1 : Int32))] []))
            refine own_st (fun _ k => XS.iloadN X0.here hx rfl (hb hby d4_73) rfl k) ?_
            show own_Go _ _ _ _ (s₁.setTop (mkF m 74 #[.val (.int ((((((((u0.toUInt32 >>> ((16 : Int32) &&& 31).toUInt32).toInt32).toUInt32 >>> ((8 : Int32) &&& 31).toUInt32).toInt32).toUInt32 >>> ((4 : Int32) &&& 31).toUInt32).toInt32).toUInt32 >>> ((2 : Int32) &&& 31).toUInt32).toInt32)), .val (.int (1 : Int32))] [(.int (1 : Int32))]))
            refine own_st (fun _ k => XS.iloadN X0.here hx rfl (hb hby d4_74) rfl k) ?_
            show own_Go _ _ _ _ (s₁.setTop (mkF m 75 #[.val (.int ((((((((u0.toUInt32 >>> ((16 : Int32) &&& 31).toUInt32).toInt32).toUInt32 >>> ((8 : Int32) &&& 31).toUInt32).toInt32).toUInt32 >>> ((4 : Int32) &&& 31).toUInt32).toInt32).toUInt32 >>> ((2 : Int32) &&& 31).toUInt32).toInt32)), .val (.int (1 : Int32))] [(.int ((((((((u0.toUInt32 >>> ((16 : Int32) &&& 31).toUInt32).toInt32).toUInt32 >>> ((8 : Int32) &&& 31).toUInt32).toInt32).toUInt32 >>> ((4 : Int32) &&& 31).toUInt32).toInt32).toUInt32 >>> ((2 : Int32) &&& 31).toUInt32).toInt32)), (.int (1 : Int32))]))
            refine own_st (fun _ k => XS.iconst X0.here hx rfl (hb hby d4_75) k) ?_
            show own_Go _ _ _ _ (s₁.setTop (mkF m 76 #[.val (.int ((((((((u0.toUInt32 >>> ((16 : Int32) &&& 31).toUInt32).toInt32).toUInt32 >>> ((8 : Int32) &&& 31).toUInt32).toInt32).toUInt32 >>> ((4 : Int32) &&& 31).toUInt32).toInt32).toUInt32 >>> ((2 : Int32) &&& 31).toUInt32).toInt32)), .val (.int (1 : Int32))] [(.int (1 : Int32)), (.int ((((((((u0.toUInt32 >>> ((16 : Int32) &&& 31).toUInt32).toInt32).toUInt32 >>> ((8 : Int32) &&& 31).toUInt32).toInt32).toUInt32 >>> ((4 : Int32) &&& 31).toUInt32).toInt32).toUInt32 >>> ((2 : Int32) &&& 31).toUInt32).toInt32)), (.int (1 : Int32))]))
            refine own_st (fun _ k => XS.iushr X0.here hx rfl (hb hby d4_76) rfl k) ?_
            show own_Go _ _ _ _ (s₁.setTop (mkF m 77 #[.val (.int ((((((((u0.toUInt32 >>> ((16 : Int32) &&& 31).toUInt32).toInt32).toUInt32 >>> ((8 : Int32) &&& 31).toUInt32).toInt32).toUInt32 >>> ((4 : Int32) &&& 31).toUInt32).toInt32).toUInt32 >>> ((2 : Int32) &&& 31).toUInt32).toInt32)), .val (.int (1 : Int32))] [(.int ((((((((((u0.toUInt32 >>> ((16 : Int32) &&& 31).toUInt32).toInt32).toUInt32 >>> ((8 : Int32) &&& 31).toUInt32).toInt32).toUInt32 >>> ((4 : Int32) &&& 31).toUInt32).toInt32).toUInt32 >>> ((2 : Int32) &&& 31).toUInt32).toInt32).toUInt32 >>> ((1 : Int32) &&& 31).toUInt32).toInt32)), (.int (1 : Int32))]))
            refine own_st (fun _ k => XS.isub X0.here hx rfl (hb hby d4_77) rfl k) ?_
            show own_Go _ _ _ _ (s₁.setTop (mkF m 78 #[.val (.int ((((((((u0.toUInt32 >>> ((16 : Int32) &&& 31).toUInt32).toInt32).toUInt32 >>> ((8 : Int32) &&& 31).toUInt32).toInt32).toUInt32 >>> ((4 : Int32) &&& 31).toUInt32).toInt32).toUInt32 >>> ((2 : Int32) &&& 31).toUInt32).toInt32)), .val (.int (1 : Int32))] [(.int ((1 : Int32) - ((((((((((u0.toUInt32 >>> ((16 : Int32) &&& 31).toUInt32).toInt32).toUInt32 >>> ((8 : Int32) &&& 31).toUInt32).toInt32).toUInt32 >>> ((4 : Int32) &&& 31).toUInt32).toInt32).toUInt32 >>> ((2 : Int32) &&& 31).toUInt32).toInt32).toUInt32 >>> ((1 : Int32) &&& 31).toUInt32).toInt32)))]))
            obtain ⟨fs, hr, hrun, hended, hW, hsame⟩ := X0.leave (v := some (.int ((1 : Int32) - ((((((((((u0.toUInt32 >>> ((16 : Int32) &&& 31).toUInt32).toInt32).toUInt32 >>> ((8 : Int32) &&& 31).toUInt32).toInt32).toUInt32 >>> ((4 : Int32) &&& 31).toUInt32).toInt32).toUInt32 >>> ((2 : Int32) &&& 31).toUInt32).toInt32).toUInt32 >>> ((1 : Int32) &&& 31).toUInt32).toInt32)))) (fun h => by rw [Bd.returns] at h; cases h)
            refine own_out (own_retI X0 hx Bd.returns (hb hby d4_78) hr) ⟨hrun, hended, _, _, rfl, ?_, ⟨_, rfl⟩, hW, hsame.mono (by decide) (by decide)⟩
            show Q4 Z u0 h0 n0 _ s₁.heap _
            have hv : own_z32 u0 = ((1 : Int32) - ((((((((((u0.toUInt32 >>> ((16 : Int32) &&& 31).toUInt32).toInt32).toUInt32 >>> ((8 : Int32) &&& 31).toUInt32).toInt32).toUInt32 >>> ((4 : Int32) &&& 31).toUInt32).toInt32).toUInt32 >>> ((2 : Int32) &&& 31).toUInt32).toInt32).toUInt32 >>> ((1 : Int32) &&& 31).toUInt32).toInt32)) := by
              unfold own_z32
              rw [if_pos hc1, if_neg hc2, if_neg hc10, if_neg hc14, if_neg hc16]
            exact ⟨by rw [hv], N0, e0⟩
  · skip
    refine own_st (fun _ k => XS.ifNo X0.here hx rfl (hb hby d4_1) rfl ((if0 _ _).trans (flt hc1).2.2.1) k) ?_
    show own_Go _ _ _ _ (s₁.setTop (mkF m 4 #[.val (.int u0), .unset] []))
    refine own_st (fun _ k => XS.iloadN X0.here hx rfl (hb hby d4_4) rfl k) ?_
    show own_Go _ _ _ _ (s₁.setTop (mkF m 5 #[.val (.int u0), .unset] [(.int u0)]))
    by_cases hc17 : u0 = (0 : Int32)
    · skip
      refine own_st (fun _ k => XS.ifNo X0.here hx rfl (hb hby d4_5) rfl ((if0 _ _).trans (teq hc17).2) k) ?_
      show own_Go _ _ _ _ (s₁.setTop (mkF m 8 #[.val (.int u0), .unset] []))
      refine own_st (fun _ k => XS.bipush X0.here hx rfl (hb hby d4_8) k) ?_
      show own_Go _ _ _ _ (s₁.setTop (mkF m 10 #[.val (.int u0), .unset] [(.int (32 : Int32))]))
      refine own_st (fun _ k => XS.goto X0.here hx rfl (pc0 := 10) (pc' := 14) rfl (hb hby d4_10) (by decide) (by decide) k) ?_
      show own_Go _ _ _ _ (s₁.setTop (mkF m 14 #[.val (.int u0), .unset] [(.int (32 : Int32))]))
      obtain ⟨fs, hr, hrun, hended, hW, hsame⟩ := X0.leave (v := some (.int (32 : Int32))) (fun h => by rw [Bd.returns] at h; cases h)
      refine own_out (own_retI X0 hx Bd.returns (hb hby d4_14) hr) ⟨hrun, hended, _, _, rfl, ?_, ⟨_, rfl⟩, hW, hsame.mono (by decide) (by decide)⟩
      show Q4 Z u0 h0 n0 _ s₁.heap _
      have hv : own_z32 u0 = (32 : Int32) := by
        unfold own_z32
        rw [if_neg hc1, if_pos hc17]
      exact ⟨by rw [hv], N0, e0⟩
    · skip
      refine own_st (fun _ k => XS.ifYes X0.here hx rfl (pc0 := 5) (pc' := 13) rfl (hb hby d4_5) rfl ((if0 _ _).trans (feq hc17).2) (by decide) (by decide) k) ?_
      show own_Go _ _ _ _ (s₁.setTop (mkF m 13 #[.val (.int u0), .unset] []))
      refine own_st (fun _ k => XS.iconst X0.here hx rfl (hb hby d4_13) k) ?_
      show own_Go _ _ _ _ (s₁.setTop (mkF m 14 #[.val (.int u0), .unset] [(.int (0 : Int32))]))
      obtain ⟨fs, hr, hrun, hended, hW, hsame⟩ := X0.leave (v := some (.int (0 : Int32))) (fun h => by rw [Bd.returns] at h; cases h)
      refine own_out (own_retI X0 hx Bd.returns (hb hby d4_14) hr) ⟨hrun, hended, _, _, rfl, ?_, ⟨_, rfl⟩, hW, hsame.mono (by decide) (by decide)⟩
      show Q4 Z u0 h0 n0 _ s₁.heap _
      have hv : own_z32 u0 = (0 : Int32) := by
        unfold own_z32
        rw [if_neg hc1, if_neg hc17]
      exact ⟨by rw [hv], N0, e0⟩
def own_z64 (u0 : Int64) : Int32 := (if (((u0.toUInt64 >>> ((32 : Int32) &&& 0x3f).toInt64.toUInt64).toInt64).toInt32) = (0 : Int32) then ((32 : Int32) + (own_z32 (u0.toInt32))) else (own_z32 (((u0.toUInt64 >>> ((32 : Int32) &&& 0x3f).toInt64.toUInt64).toInt64).toInt32)))
theorem d3_0 : decode jdk_35_method_48_code 0 = .ok (.lload_n 0, 1) := by decide +kernel
theorem d3_1 : decode jdk_35_method_48_code 1 = .ok (.bipush 32, 2) := by decide +kernel
theorem d3_3 : decode jdk_35_method_48_code 3 = .ok (.lushr, 1) := by decide +kernel
theorem d3_4 : decode jdk_35_method_48_code 4 = .ok (.l2i, 1) := by decide +kernel
theorem d3_5 : decode jdk_35_method_48_code 5 = .ok (.istore_n 2, 1) := by decide +kernel
theorem d3_6 : decode jdk_35_method_48_code 6 = .ok (.iload_n 2, 1) := by decide +kernel
theorem d3_7 : decode jdk_35_method_48_code 7 = .ok (.ifCond .ne 14, 3) := by decide +kernel
theorem d3_10 : decode jdk_35_method_48_code 10 = .ok (.bipush 32, 2) := by decide +kernel
theorem d3_12 : decode jdk_35_method_48_code 12 = .ok (.lload_n 0, 1) := by decide +kernel
theorem d3_13 : decode jdk_35_method_48_code 13 = .ok (.l2i, 1) := by decide +kernel
theorem d3_14 : decode jdk_35_method_48_code 14 = .ok (.invokestatic 308, 3) := by decide +kernel
theorem d3_17 : decode jdk_35_method_48_code 17 = .ok (.iadd, 1) := by decide +kernel
theorem d3_18 : decode jdk_35_method_48_code 18 = .ok (.goto 7, 3) := by decide +kernel
theorem d3_21 : decode jdk_35_method_48_code 21 = .ok (.iload_n 2, 1) := by decide +kernel
theorem d3_22 : decode jdk_35_method_48_code 22 = .ok (.invokestatic 308, 3) := by decide +kernel
theorem d3_25 : decode jdk_35_method_48_code 25 = .ok (.ireturn, 1) := by decide +kernel
theorem own_pd1 : parseMethodDescriptor "(J)I" = some ⟨[.long], some .int⟩ := by decide +kernel
theorem own_pn1 : plainName "java/lang/Long" = true := by first | (simp [plainName, overriddenIn]; done) | decide +kernel
def Q3 (Z : State) (u0 : Int64) (h0 : Heap) (n0 : Nat) (v : Option Value) (h : Heap) (L : List Loc) : Prop := v = some (.int (own_z64 u0)) ∧ Fr n0 L ∧ h = h0
theorem ef_3 (m : MethodId) (x0 : Int64) : entryFrame m #[(.long x0)] 3 = mkF m 0 #[.val (.long x0), .second, .unset] [] := by first | (simp [entryFrame, mkF, argsToLocals, Value.category]; done) | rfl
set_option maxRecDepth 65536 in
set_option maxHeartbeats 40000000 in
theorem rm3 (l : Launch) (Z : State) (a0 : Array Value) (hw : ∀ d ∈ tables_1, d.before a0 Z = true) (ws : List Jvm.Cond) (u0 : Int64) (h0 : Heap) (n0 : Nat) (Z0 : n0 ≤ h0.size)  :
    MetFree l (⟨"java/lang/Long", "numberOfLeadingZeros", "(J)I"⟩ : MethodName) (head1 (Jvm.Cond.code (⟨"java/lang/Long", "numberOfLeadingZeros", "(J)I"⟩ : MethodName) jdk_35_method_48_code 3 (some .int) :: ws) ({ frames := 1, cells := 0, slots := 0, locals := 20 } : Room)) (fun a U => a = #[(.long u0)] ∧ Z.Warmed39 U.vm ∧ U.heap = h0) (fun _ _ _ _ _ => True) (fun _ U o U' => ∃ v L, o = .returned v ∧ Q3 Z u0 h0 n0 v U'.heap L ∧ FrameEnd U o U' L ({ frames := 1, cells := 0, slots := 0, locals := 20 } : Room).cells ({ frames := 1, cells := 0, slots := 0, locals := 20 } : Room).slots) := by
  refine MetFree.of_bodySF (plainFor_of_name own_pn1) hisR ?_
  intro p e s m args below meth c s₁ Bd hml0 hP hK
  obtain ⟨rfl, hZ, hh⟩ := hP
  have hx := Bd.exec
  have hby := Bd.bytes
  have hml : c.maxLocals = 3 := hml0
  have hown : s.vm.findClass "java/lang/Long" = some m.cls := findClass_of_methodNamed Bd.named
  have hnm := (name_of_methodNamed Bd.named Bd.method).1
  have X0 : Stand p l e ({ frames := 1, cells := 0, slots := 0, locals := 20 } : Room) s m #[(.long u0)] below meth c s₁ [] 0 0 := Stand.of_body Bd
  have e0 : s₁.heap = h0 := by rw [← hh, Bd.state]; rfl
  have N0 := Fr.nil n0
  refine own_in ?_
  refine own_st (fun _ k => castTop (ef_3 m u0) k) ?_
  have K0 : Keep h0 h0 [] := Keep.refl h0 []
  show own_Go _ _ _ _ (s₁.setTop (mkF m 0 #[.val (.long u0), .second, .unset] []))
  refine own_st (fun _ k => XS.lloadN X0.here hx rfl (hb hby d3_0) rfl k) ?_
  show own_Go _ _ _ _ (s₁.setTop (mkF m 1 #[.val (.long u0), .second, .unset] [(.long u0)]))
  refine own_st (fun _ k => XS.bipush X0.here hx rfl (hb hby d3_1) k) ?_
  show own_Go _ _ _ _ (s₁.setTop (mkF m 3 #[.val (.long u0), .second, .unset] [(.int (32 : Int32)), (.long u0)]))
  refine own_st (fun _ k => XS.lushr X0.here hx rfl (hb hby d3_3) rfl k) ?_
  show own_Go _ _ _ _ (s₁.setTop (mkF m 4 #[.val (.long u0), .second, .unset] [(.long ((u0.toUInt64 >>> ((32 : Int32) &&& 0x3f).toInt64.toUInt64).toInt64))]))
  refine own_st (fun _ k => XS.l2i X0.here hx rfl (hb hby d3_4) rfl k) ?_
  show own_Go _ _ _ _ (s₁.setTop (mkF m 5 #[.val (.long u0), .second, .unset] [(.int (((u0.toUInt64 >>> ((32 : Int32) &&& 0x3f).toInt64.toUInt64).toInt64).toInt32))]))
  refine own_st (fun _ k => XS.istoreN X0.here hx rfl (hb hby d3_5) rfl (l' := #[.val (.long u0), .second, .val (.int (((u0.toUInt64 >>> ((32 : Int32) &&& 0x3f).toInt64.toUInt64).toInt64).toInt32))]) rfl k) ?_
  show own_Go _ _ _ _ (s₁.setTop (mkF m 6 #[.val (.long u0), .second, .val (.int (((u0.toUInt64 >>> ((32 : Int32) &&& 0x3f).toInt64.toUInt64).toInt64).toInt32))] []))
  refine own_st (fun _ k => XS.iloadN X0.here hx rfl (hb hby d3_6) rfl k) ?_
  show own_Go _ _ _ _ (s₁.setTop (mkF m 7 #[.val (.long u0), .second, .val (.int (((u0.toUInt64 >>> ((32 : Int32) &&& 0x3f).toInt64.toUInt64).toInt64).toInt32))] [(.int (((u0.toUInt64 >>> ((32 : Int32) &&& 0x3f).toInt64.toUInt64).toInt64).toInt32))]))
  by_cases hc18 : (((u0.toUInt64 >>> ((32 : Int32) &&& 0x3f).toInt64.toUInt64).toInt64).toInt32) = (0 : Int32)
  · skip
    refine own_st (fun _ k => XS.ifNo X0.here hx rfl (hb hby d3_7) rfl ((if0 _ _).trans (teq hc18).2) k) ?_
    show own_Go _ _ _ _ (s₁.setTop (mkF m 10 #[.val (.long u0), .second, .val (.int (((u0.toUInt64 >>> ((32 : Int32) &&& 0x3f).toInt64.toUInt64).toInt64).toInt32))] []))
    refine own_st (fun _ k => XS.bipush X0.here hx rfl (hb hby d3_10) k) ?_
    show own_Go _ _ _ _ (s₁.setTop (mkF m 12 #[.val (.long u0), .second, .val (.int (((u0.toUInt64 >>> ((32 : Int32) &&& 0x3f).toInt64.toUInt64).toInt64).toInt32))] [(.int (32 : Int32))]))
    refine own_st (fun _ k => XS.lloadN X0.here hx rfl (hb hby d3_12) rfl k) ?_
    show own_Go _ _ _ _ (s₁.setTop (mkF m 13 #[.val (.long u0), .second, .val (.int (((u0.toUInt64 >>> ((32 : Int32) &&& 0x3f).toInt64.toUInt64).toInt64).toInt32))] [(.long u0), (.int (32 : Int32))]))
    refine own_st (fun _ k => XS.l2i X0.here hx rfl (hb hby d3_13) rfl k) ?_
    show own_Go _ _ _ _ (s₁.setTop (mkF m 14 #[.val (.long u0), .second, .val (.int (((u0.toUInt64 >>> ((32 : Int32) &&& 0x3f).toInt64.toUInt64).toInt64).toInt32))] [(.int (u0.toInt32)), (.int (32 : Int32))]))
    obtain ⟨_, _, ⟨T19, L19, k19, n19⟩, -, X19, ⟨Lc19, hQ19, l19, y19, z19⟩, st19⟩ := Jvm.LawKit.callS X0 hx (y := (⟨"java/lang/Integer", "numberOfLeadingZeros", "(I)I"⟩ : MethodName)) hown (mvT hZ (hw _ (List.mem_of_getElem? (i := 14) rfl))) (mvT hZ (hw _ (List.mem_of_getElem? (i := 15) rfl))) (mvT hZ (hw _ (List.mem_of_getElem? (i := 16) rfl))) (mvT hZ (hw _ (List.mem_of_getElem? (i := 17) rfl))) (by decide) (backOf (W := 1) (rm4 l Z a0 hw [] (u0.toInt32) h0 n0 Z0 ) hZ (hw _ (List.mem_of_getElem? (i := 17) rfl)) (hw _ (List.mem_of_getElem? (i := 16) rfl)) (by decide) (by decide)) (g := (mkF m 14 #[.val (.long u0), .second, .val (.int (((u0.toUInt64 >>> ((32 : Int32) &&& 0x3f).toInt64.toUInt64).toInt64).toInt32))] [(.int (u0.toInt32)), (.int (32 : Int32))])) rfl (by rw [hml]; rfl) (argsL := [(.int (u0.toInt32))]) (rest := [(.int (32 : Int32))]) (lenOf own_pd0 rfl) rfl (by show 2 * 0 + _ ≤ _; exact Nat.le_of_eq rfl) (hb hby d3_14) (fun _ _ => ⟨rfl, e0, (by decide : 0 + 0 ≤ _), (by decide : 0 + 0 ≤ _)⟩)
    dsimp only [Pt.U, Pt.locs, Pt.cells, Pt.slots] at X19 l19 y19 z19 st19 hQ19
    subst l19 y19 z19
    obtain ⟨rfl, Nq19, eq19⟩ := hQ19
    have N19 := Fr.app N0 Nq19
    refine own_st st19 ?_
    show own_Go _ _ _ _ (T19.setTop (mkF m 17 #[.val (.long u0), .second, .val (.int (((u0.toUInt64 >>> ((32 : Int32) &&& 0x3f).toInt64.toUInt64).toInt64).toInt32))] [(.int (own_z32 (u0.toInt32))), (.int (32 : Int32))]))
    refine own_st (fun _ k => XS.iadd X19.here hx rfl (hb hby d3_17) rfl k) ?_
    show own_Go _ _ _ _ (T19.setTop (mkF m 18 #[.val (.long u0), .second, .val (.int (((u0.toUInt64 >>> ((32 : Int32) &&& 0x3f).toInt64.toUInt64).toInt64).toInt32))] [(.int ((32 : Int32) + (own_z32 (u0.toInt32))))]))
    refine own_st (fun _ k => XS.goto X19.here hx rfl (pc0 := 18) (pc' := 25) rfl (hb hby d3_18) (by decide) (by decide) k) ?_
    show own_Go _ _ _ _ (T19.setTop (mkF m 25 #[.val (.long u0), .second, .val (.int (((u0.toUInt64 >>> ((32 : Int32) &&& 0x3f).toInt64.toUInt64).toInt64).toInt32))] [(.int ((32 : Int32) + (own_z32 (u0.toInt32))))]))
    obtain ⟨fs, hr, hrun, hended, hW, hsame⟩ := X19.leave (v := some (.int ((32 : Int32) + (own_z32 (u0.toInt32))))) (fun h => by rw [Bd.returns] at h; cases h)
    refine own_out (own_retI X19 hx Bd.returns (hb hby d3_25) hr) ⟨hrun, hended, _, _, rfl, ?_, ⟨_, rfl⟩, hW, hsame.mono (by decide) (by decide)⟩
    show Q3 Z u0 h0 n0 _ T19.heap _
    have hv : own_z64 u0 = ((32 : Int32) + (own_z32 (u0.toInt32))) := by
      unfold own_z64
      rw [if_pos hc18]
    exact ⟨by rw [hv], N19, eq19⟩
  · skip
    refine own_st (fun _ k => XS.ifYes X0.here hx rfl (pc0 := 7) (pc' := 21) rfl (hb hby d3_7) rfl ((if0 _ _).trans (feq hc18).2) (by decide) (by decide) k) ?_
    show own_Go _ _ _ _ (s₁.setTop (mkF m 21 #[.val (.long u0), .second, .val (.int (((u0.toUInt64 >>> ((32 : Int32) &&& 0x3f).toInt64.toUInt64).toInt64).toInt32))] []))
    refine own_st (fun _ k => XS.iloadN X0.here hx rfl (hb hby d3_21) rfl k) ?_
    show own_Go _ _ _ _ (s₁.setTop (mkF m 22 #[.val (.long u0), .second, .val (.int (((u0.toUInt64 >>> ((32 : Int32) &&& 0x3f).toInt64.toUInt64).toInt64).toInt32))] [(.int (((u0.toUInt64 >>> ((32 : Int32) &&& 0x3f).toInt64.toUInt64).toInt64).toInt32))]))
    obtain ⟨_, _, ⟨T20, L20, k20, n20⟩, -, X20, ⟨Lc20, hQ20, l20, y20, z20⟩, st20⟩ := Jvm.LawKit.callS X0 hx (y := (⟨"java/lang/Integer", "numberOfLeadingZeros", "(I)I"⟩ : MethodName)) hown (mvT hZ (hw _ (List.mem_of_getElem? (i := 14) rfl))) (mvT hZ (hw _ (List.mem_of_getElem? (i := 15) rfl))) (mvT hZ (hw _ (List.mem_of_getElem? (i := 16) rfl))) (mvT hZ (hw _ (List.mem_of_getElem? (i := 17) rfl))) (by decide) (backOf (W := 0) (rm4 l Z a0 hw [] (((u0.toUInt64 >>> ((32 : Int32) &&& 0x3f).toInt64.toUInt64).toInt64).toInt32) h0 n0 Z0 ) hZ (hw _ (List.mem_of_getElem? (i := 17) rfl)) (hw _ (List.mem_of_getElem? (i := 16) rfl)) (by decide) (by decide)) (g := (mkF m 22 #[.val (.long u0), .second, .val (.int (((u0.toUInt64 >>> ((32 : Int32) &&& 0x3f).toInt64.toUInt64).toInt64).toInt32))] [(.int (((u0.toUInt64 >>> ((32 : Int32) &&& 0x3f).toInt64.toUInt64).toInt64).toInt32))])) rfl (by rw [hml]; rfl) (argsL := [(.int (((u0.toUInt64 >>> ((32 : Int32) &&& 0x3f).toInt64.toUInt64).toInt64).toInt32))]) (rest := []) (lenOf own_pd0 rfl) rfl (by show 2 * 0 + _ ≤ _; exact Nat.le_of_eq rfl) (hb hby d3_22) (fun _ _ => ⟨rfl, e0, (by decide : 0 + 0 ≤ _), (by decide : 0 + 0 ≤ _)⟩)
    dsimp only [Pt.U, Pt.locs, Pt.cells, Pt.slots] at X20 l20 y20 z20 st20 hQ20
    subst l20 y20 z20
    obtain ⟨rfl, Nq20, eq20⟩ := hQ20
    have N20 := Fr.app N0 Nq20
    refine own_st st20 ?_
    show own_Go _ _ _ _ (T20.setTop (mkF m 25 #[.val (.long u0), .second, .val (.int (((u0.toUInt64 >>> ((32 : Int32) &&& 0x3f).toInt64.toUInt64).toInt64).toInt32))] [(.int (own_z32 (((u0.toUInt64 >>> ((32 : Int32) &&& 0x3f).toInt64.toUInt64).toInt64).toInt32)))]))
    obtain ⟨fs, hr, hrun, hended, hW, hsame⟩ := X20.leave (v := some (.int (own_z32 (((u0.toUInt64 >>> ((32 : Int32) &&& 0x3f).toInt64.toUInt64).toInt64).toInt32)))) (fun h => by rw [Bd.returns] at h; cases h)
    refine own_out (own_retI X20 hx Bd.returns (hb hby d3_25) hr) ⟨hrun, hended, _, _, rfl, ?_, ⟨_, rfl⟩, hW, hsame.mono (by decide) (by decide)⟩
    show Q3 Z u0 h0 n0 _ T20.heap _
    have hv : own_z64 u0 = (own_z32 (((u0.toUInt64 >>> ((32 : Int32) &&& 0x3f).toInt64.toUInt64).toInt64).toInt32)) := by
      unfold own_z64
      rw [if_neg hc18]
    exact ⟨by rw [hv], N20, eq20⟩
def own_vs (u0 : Int64) : Int32 := (if (lcmpW u0 (0 : Int64)) = (0 : Int32) then (1 : Int32) else ((((64 : Int32) - (own_z64 u0)) + (6 : Int32)) / (7 : Int32)))
theorem d1_0 : decode prog_2_method_2_code 0 = .ok (.lload_n 0, 1) := by decide +kernel
theorem d1_1 : decode prog_2_method_2_code 1 = .ok (.lconst 0, 1) := by decide +kernel
theorem d1_2 : decode prog_2_method_2_code 2 = .ok (.lcmp, 1) := by decide +kernel
theorem d1_3 : decode prog_2_method_2_code 3 = .ok (.ifCond .ne 7, 3) := by decide +kernel
theorem d1_6 : decode prog_2_method_2_code 6 = .ok (.iconst 1, 1) := by decide +kernel
theorem d1_7 : decode prog_2_method_2_code 7 = .ok (.goto 16, 3) := by decide +kernel
theorem d1_10 : decode prog_2_method_2_code 10 = .ok (.bipush 64, 2) := by decide +kernel
theorem d1_12 : decode prog_2_method_2_code 12 = .ok (.lload_n 0, 1) := by decide +kernel
theorem d1_13 : decode prog_2_method_2_code 13 = .ok (.invokestatic 13, 3) := by decide +kernel
theorem d1_16 : decode prog_2_method_2_code 16 = .ok (.isub, 1) := by decide +kernel
theorem d1_17 : decode prog_2_method_2_code 17 = .ok (.bipush 6, 2) := by decide +kernel
theorem d1_19 : decode prog_2_method_2_code 19 = .ok (.iadd, 1) := by decide +kernel
theorem d1_20 : decode prog_2_method_2_code 20 = .ok (.bipush 7, 2) := by decide +kernel
theorem d1_22 : decode prog_2_method_2_code 22 = .ok (.idiv, 1) := by decide +kernel
theorem d1_23 : decode prog_2_method_2_code 23 = .ok (.ireturn, 1) := by decide +kernel
theorem own_pn2 : plainName "com/example/outlay/outlay/ByteWriter" = true := by first | (simp [plainName, overriddenIn]; done) | decide +kernel
def Q1 (Z : State) (u0 : Int64) (h0 : Heap) (n0 : Nat) (v : Option Value) (h : Heap) (L : List Loc) : Prop := v = some (.int (own_vs u0)) ∧ Fr n0 L ∧ h = h0
theorem ef_1 (m : MethodId) (x0 : Int64) : entryFrame m #[(.long x0)] 2 = mkF m 0 #[.val (.long x0), .second] [] := by first | (simp [entryFrame, mkF, argsToLocals, Value.category]; done) | rfl
set_option maxRecDepth 65536 in
set_option maxHeartbeats 40000000 in
theorem rm1 (l : Launch) (Z : State) (a0 : Array Value) (hw : ∀ d ∈ tables_1, d.before a0 Z = true) (ws : List Jvm.Cond) (u0 : Int64) (h0 : Heap) (n0 : Nat) (Z0 : n0 ≤ h0.size)  :
    MetFree l (⟨"com/example/outlay/outlay/ByteWriter", "varintSize", "(J)I"⟩ : MethodName) (head1 (Jvm.Cond.code (⟨"com/example/outlay/outlay/ByteWriter", "varintSize", "(J)I"⟩ : MethodName) prog_2_method_2_code 2 (some .int) :: ws) ({ frames := 2, cells := 0, slots := 0, locals := 50 } : Room)) (fun a U => a = #[(.long u0)] ∧ Z.Warmed39 U.vm ∧ U.heap = h0) (fun _ _ _ _ _ => True) (fun _ U o U' => ∃ v L, o = .returned v ∧ Q1 Z u0 h0 n0 v U'.heap L ∧ FrameEnd U o U' L ({ frames := 2, cells := 0, slots := 0, locals := 50 } : Room).cells ({ frames := 2, cells := 0, slots := 0, locals := 50 } : Room).slots) := by
  refine MetFree.of_bodySF (plainFor_of_name own_pn2) hisR ?_
  intro p e s m args below meth c s₁ Bd hml0 hP hK
  obtain ⟨rfl, hZ, hh⟩ := hP
  have hx := Bd.exec
  have hby := Bd.bytes
  have hml : c.maxLocals = 2 := hml0
  have hown : s.vm.findClass "com/example/outlay/outlay/ByteWriter" = some m.cls := findClass_of_methodNamed Bd.named
  have hnm := (name_of_methodNamed Bd.named Bd.method).1
  have X0 : Stand p l e ({ frames := 2, cells := 0, slots := 0, locals := 50 } : Room) s m #[(.long u0)] below meth c s₁ [] 0 0 := Stand.of_body Bd
  have e0 : s₁.heap = h0 := by rw [← hh, Bd.state]; rfl
  have N0 := Fr.nil n0
  refine own_in ?_
  refine own_st (fun _ k => castTop (ef_1 m u0) k) ?_
  have K0 : Keep h0 h0 [] := Keep.refl h0 []
  show own_Go _ _ _ _ (s₁.setTop (mkF m 0 #[.val (.long u0), .second] []))
  refine own_st (fun _ k => XS.lloadN X0.here hx rfl (hb hby d1_0) rfl k) ?_
  show own_Go _ _ _ _ (s₁.setTop (mkF m 1 #[.val (.long u0), .second] [(.long u0)]))
  refine own_st (fun _ k => XS.lconst X0.here hx rfl (hb hby d1_1) k) ?_
  show own_Go _ _ _ _ (s₁.setTop (mkF m 2 #[.val (.long u0), .second] [(.long (0 : Int64)), (.long u0)]))
  refine own_st (fun _ k => XS.lcmp X0.here hx rfl (hb hby d1_2) rfl k) ?_
  show own_Go _ _ _ _ (s₁.setTop (mkF m 3 #[.val (.long u0), .second] [(.int (lcmpW u0 (0 : Int64)))]))
  by_cases hc21 : (lcmpW u0 (0 : Int64)) = (0 : Int32)
  · skip
    refine own_st (fun _ k => XS.ifNo X0.here hx rfl (hb hby d1_3) rfl ((if0 _ _).trans (teq hc21).2) k) ?_
    show own_Go _ _ _ _ (s₁.setTop (mkF m 6 #[.val (.long u0), .second] []))
    refine own_st (fun _ k => XS.iconst X0.here hx rfl (hb hby d1_6) k) ?_
    show own_Go _ _ _ _ (s₁.setTop (mkF m 7 #[.val (.long u0), .second] [(.int (1 : Int32))]))
    refine own_st (fun _ k => XS.goto X0.here hx rfl (pc0 := 7) (pc' := 23) rfl (hb hby d1_7) (by decide) (by decide) k) ?_
    show own_Go _ _ _ _ (s₁.setTop (mkF m 23 #[.val (.long u0), .second] [(.int (1 : Int32))]))
    obtain ⟨fs, hr, hrun, hended, hW, hsame⟩ := X0.leave (v := some (.int (1 : Int32))) (fun h => by rw [Bd.returns] at h; cases h)
    refine own_out (own_retI X0 hx Bd.returns (hb hby d1_23) hr) ⟨hrun, hended, _, _, rfl, ?_, ⟨_, rfl⟩, hW, hsame.mono (by decide) (by decide)⟩
    show Q1 Z u0 h0 n0 _ s₁.heap _
    have hv : own_vs u0 = (1 : Int32) := by
      unfold own_vs
      rw [if_pos hc21]
    exact ⟨by rw [hv], N0, e0⟩
  · skip
    refine own_st (fun _ k => XS.ifYes X0.here hx rfl (pc0 := 3) (pc' := 10) rfl (hb hby d1_3) rfl ((if0 _ _).trans (feq hc21).2) (by decide) (by decide) k) ?_
    show own_Go _ _ _ _ (s₁.setTop (mkF m 10 #[.val (.long u0), .second] []))
    refine own_st (fun _ k => XS.bipush X0.here hx rfl (hb hby d1_10) k) ?_
    show own_Go _ _ _ _ (s₁.setTop (mkF m 12 #[.val (.long u0), .second] [(.int (64 : Int32))]))
    refine own_st (fun _ k => XS.lloadN X0.here hx rfl (hb hby d1_12) rfl k) ?_
    show own_Go _ _ _ _ (s₁.setTop (mkF m 13 #[.val (.long u0), .second] [(.long u0), (.int (64 : Int32))]))
    obtain ⟨_, _, ⟨T22, L22, k22, n22⟩, -, X22, ⟨Lc22, hQ22, l22, y22, z22⟩, st22⟩ := Jvm.LawKit.callS X0 hx (y := (⟨"java/lang/Long", "numberOfLeadingZeros", "(J)I"⟩ : MethodName)) hown (mvT hZ (hw _ (List.mem_of_getElem? (i := 10) rfl))) (mvT hZ (hw _ (List.mem_of_getElem? (i := 11) rfl))) (mvT hZ (hw _ (List.mem_of_getElem? (i := 12) rfl))) (mvT hZ (hw _ (List.mem_of_getElem? (i := 13) rfl))) (by decide) (backOf (W := 1) (rm3 l Z a0 hw [] u0 h0 n0 Z0 ) hZ (hw _ (List.mem_of_getElem? (i := 13) rfl)) (hw _ (List.mem_of_getElem? (i := 12) rfl)) (by decide) (by decide)) (g := (mkF m 13 #[.val (.long u0), .second] [(.long u0), (.int (64 : Int32))])) rfl (by rw [hml]; rfl) (argsL := [(.long u0)]) (rest := [(.int (64 : Int32))]) (lenOf own_pd1 rfl) rfl (by show 2 * 0 + _ ≤ _; exact Nat.le_of_eq rfl) (hb hby d1_13) (fun _ _ => ⟨rfl, e0, (by decide : 0 + 0 ≤ _), (by decide : 0 + 0 ≤ _)⟩)
    dsimp only [Pt.U, Pt.locs, Pt.cells, Pt.slots] at X22 l22 y22 z22 st22 hQ22
    subst l22 y22 z22
    obtain ⟨rfl, Nq22, eq22⟩ := hQ22
    have N22 := Fr.app N0 Nq22
    refine own_st st22 ?_
    show own_Go _ _ _ _ (T22.setTop (mkF m 16 #[.val (.long u0), .second] [(.int (own_z64 u0)), (.int (64 : Int32))]))
    refine own_st (fun _ k => XS.isub X22.here hx rfl (hb hby d1_16) rfl k) ?_
    show own_Go _ _ _ _ (T22.setTop (mkF m 17 #[.val (.long u0), .second] [(.int ((64 : Int32) - (own_z64 u0)))]))
    refine own_st (fun _ k => XS.bipush X22.here hx rfl (hb hby d1_17) k) ?_
    show own_Go _ _ _ _ (T22.setTop (mkF m 19 #[.val (.long u0), .second] [(.int (6 : Int32)), (.int ((64 : Int32) - (own_z64 u0)))]))
    refine own_st (fun _ k => XS.iadd X22.here hx rfl (hb hby d1_19) rfl k) ?_
    show own_Go _ _ _ _ (T22.setTop (mkF m 20 #[.val (.long u0), .second] [(.int (((64 : Int32) - (own_z64 u0)) + (6 : Int32)))]))
    refine own_st (fun _ k => XS.bipush X22.here hx rfl (hb hby d1_20) k) ?_
    show own_Go _ _ _ _ (T22.setTop (mkF m 22 #[.val (.long u0), .second] [(.int (7 : Int32)), (.int (((64 : Int32) - (own_z64 u0)) + (6 : Int32)))]))
    refine own_st (fun _ k => XS.idiv X22.here hx rfl (hb hby d1_22) rfl (by decide : ¬ ((7 : Int32) = (0 : Int32))) k) ?_
    show own_Go _ _ _ _ (T22.setTop (mkF m 23 #[.val (.long u0), .second] [(.int ((((64 : Int32) - (own_z64 u0)) + (6 : Int32)) / (7 : Int32)))]))
    obtain ⟨fs, hr, hrun, hended, hW, hsame⟩ := X22.leave (v := some (.int ((((64 : Int32) - (own_z64 u0)) + (6 : Int32)) / (7 : Int32)))) (fun h => by rw [Bd.returns] at h; cases h)
    refine own_out (own_retI X22 hx Bd.returns (hb hby d1_23) hr) ⟨hrun, hended, _, _, rfl, ?_, ⟨_, rfl⟩, hW, hsame.mono (by decide) (by decide)⟩
    show Q1 Z u0 h0 n0 _ T22.heap _
    have hv : own_vs u0 = ((((64 : Int32) - (own_z64 u0)) + (6 : Int32)) / (7 : Int32)) := by
      unfold own_vs
      rw [if_neg hc21]
    exact ⟨by rw [hv], N22, eq22⟩
def own_ex (u0 : Int64) : Int32 := (if (lcmpW u0 (128 : Int64)) < (0 : Int32) then (1 : Int32) else (if (lcmpW u0 (16384 : Int64)) < (0 : Int32) then (2 : Int32) else (if (lcmpW u0 (2097152 : Int64)) < (0 : Int32) then (3 : Int32) else (if (lcmpW u0 (268435456 : Int64)) < (0 : Int32) then (4 : Int32) else (if (lcmpW u0 (34359738368 : Int64)) < (0 : Int32) then (5 : Int32) else (if (lcmpW u0 (4398046511104 : Int64)) < (0 : Int32) then (6 : Int32) else (if (lcmpW u0 (562949953421312 : Int64)) < (0 : Int32) then (7 : Int32) else (if (lcmpW u0 (72057594037927936 : Int64)) < (0 : Int32) then (8 : Int32) else (9 : Int32)))))))))
theorem d2_0 : decode method_3_code 0 = .ok (.lload_n 0, 1) := by decide +kernel
theorem d2_1 : decode method_3_code 1 = .ok (.ldc2_w 22, 3) := by decide +kernel
theorem d2_4 : decode method_3_code 4 = .ok (.lcmp, 1) := by decide +kernel
theorem d2_5 : decode method_3_code 5 = .ok (.ifCond .ge 5, 3) := by decide +kernel
theorem d2_8 : decode method_3_code 8 = .ok (.iconst 1, 1) := by decide +kernel
theorem d2_9 : decode method_3_code 9 = .ok (.ireturn, 1) := by decide +kernel
theorem d2_10 : decode method_3_code 10 = .ok (.lload_n 0, 1) := by decide +kernel
theorem d2_11 : decode method_3_code 11 = .ok (.ldc2_w 24, 3) := by decide +kernel
theorem d2_14 : decode method_3_code 14 = .ok (.lcmp, 1) := by decide +kernel
theorem d2_15 : decode method_3_code 15 = .ok (.ifCond .ge 5, 3) := by decide +kernel
theorem d2_18 : decode method_3_code 18 = .ok (.iconst 2, 1) := by decide +kernel
theorem d2_19 : decode method_3_code 19 = .ok (.ireturn, 1) := by decide +kernel
theorem d2_20 : decode method_3_code 20 = .ok (.lload_n 0, 1) := by decide +kernel
theorem d2_21 : decode method_3_code 21 = .ok (.ldc2_w 26, 3) := by decide +kernel
theorem d2_24 : decode method_3_code 24 = .ok (.lcmp, 1) := by decide +kernel
theorem d2_25 : decode method_3_code 25 = .ok (.ifCond .ge 5, 3) := by decide +kernel
theorem d2_28 : decode method_3_code 28 = .ok (.iconst 3, 1) := by decide +kernel
theorem d2_29 : decode method_3_code 29 = .ok (.ireturn, 1) := by decide +kernel
theorem d2_30 : decode method_3_code 30 = .ok (.lload_n 0, 1) := by decide +kernel
theorem d2_31 : decode method_3_code 31 = .ok (.ldc2_w 28, 3) := by decide +kernel
theorem d2_34 : decode method_3_code 34 = .ok (.lcmp, 1) := by decide +kernel
theorem d2_35 : decode method_3_code 35 = .ok (.ifCond .ge 5, 3) := by decide +kernel
theorem d2_38 : decode method_3_code 38 = .ok (.iconst 4, 1) := by decide +kernel
theorem d2_39 : decode method_3_code 39 = .ok (.ireturn, 1) := by decide +kernel
theorem d2_40 : decode method_3_code 40 = .ok (.lload_n 0, 1) := by decide +kernel
theorem d2_41 : decode method_3_code 41 = .ok (.ldc2_w 30, 3) := by decide +kernel
theorem d2_44 : decode method_3_code 44 = .ok (.lcmp, 1) := by decide +kernel
theorem d2_45 : decode method_3_code 45 = .ok (.ifCond .ge 5, 3) := by decide +kernel
theorem d2_48 : decode method_3_code 48 = .ok (.iconst 5, 1) := by decide +kernel
theorem d2_49 : decode method_3_code 49 = .ok (.ireturn, 1) := by decide +kernel
theorem d2_50 : decode method_3_code 50 = .ok (.lload_n 0, 1) := by decide +kernel
theorem d2_51 : decode method_3_code 51 = .ok (.ldc2_w 32, 3) := by decide +kernel
theorem d2_54 : decode method_3_code 54 = .ok (.lcmp, 1) := by decide +kernel
theorem d2_55 : decode method_3_code 55 = .ok (.ifCond .ge 6, 3) := by decide +kernel
theorem d2_58 : decode method_3_code 58 = .ok (.bipush 6, 2) := by decide +kernel
theorem d2_60 : decode method_3_code 60 = .ok (.ireturn, 1) := by decide +kernel
theorem d2_61 : decode method_3_code 61 = .ok (.lload_n 0, 1) := by decide +kernel
theorem d2_62 : decode method_3_code 62 = .ok (.ldc2_w 34, 3) := by decide +kernel
theorem d2_65 : decode method_3_code 65 = .ok (.lcmp, 1) := by decide +kernel
theorem d2_66 : decode method_3_code 66 = .ok (.ifCond .ge 6, 3) := by decide +kernel
theorem d2_69 : decode method_3_code 69 = .ok (.bipush 7, 2) := by decide +kernel
theorem d2_71 : decode method_3_code 71 = .ok (.ireturn, 1) := by decide +kernel
theorem d2_72 : decode method_3_code 72 = .ok (.lload_n 0, 1) := by decide +kernel
theorem d2_73 : decode method_3_code 73 = .ok (.ldc2_w 36, 3) := by decide +kernel
theorem d2_76 : decode method_3_code 76 = .ok (.lcmp, 1) := by decide +kernel
theorem d2_77 : decode method_3_code 77 = .ok (.ifCond .ge 6, 3) := by decide +kernel
theorem d2_80 : decode method_3_code 80 = .ok (.bipush 8, 2) := by decide +kernel
theorem d2_82 : decode method_3_code 82 = .ok (.ireturn, 1) := by decide +kernel
theorem d2_83 : decode method_3_code 83 = .ok (.bipush 9, 2) := by decide +kernel
theorem d2_85 : decode method_3_code 85 = .ok (.ireturn, 1) := by decide +kernel
theorem own_pn3 : plainName "com/example/outlay/outlay/ByteWriterVarintSizePinLaw" = true := by first | (simp [plainName, overriddenIn]; done) | decide +kernel
def Q2 (Z : State) (u0 : Int64) (h0 : Heap) (n0 : Nat) (v : Option Value) (h : Heap) (L : List Loc) : Prop := v = some (.int (own_ex u0)) ∧ Fr n0 L ∧ h = h0
theorem ef_2 (m : MethodId) (x0 : Int64) : entryFrame m #[(.long x0)] 2 = mkF m 0 #[.val (.long x0), .second] [] := by first | (simp [entryFrame, mkF, argsToLocals, Value.category]; done) | rfl
set_option maxRecDepth 65536 in
set_option maxHeartbeats 40000000 in
theorem rm2 (l : Launch) (Z : State) (a0 : Array Value) (hw : ∀ d ∈ tables_1, d.before a0 Z = true) (ws : List Jvm.Cond) (u0 : Int64) (h0 : Heap) (n0 : Nat) (Z0 : n0 ≤ h0.size)  :
    MetFree l (⟨"com/example/outlay/outlay/ByteWriterVarintSizePinLaw", "expected", "(J)I"⟩ : MethodName) (head1 (Jvm.Cond.code (⟨"com/example/outlay/outlay/ByteWriterVarintSizePinLaw", "expected", "(J)I"⟩ : MethodName) method_3_code 2 (some .int) :: ws) ({ frames := 0, cells := 0, slots := 0, locals := 0 } : Room)) (fun a U => a = #[(.long u0)] ∧ Z.Warmed39 U.vm ∧ U.heap = h0) (fun _ _ _ _ _ => True) (fun _ U o U' => ∃ v L, o = .returned v ∧ Q2 Z u0 h0 n0 v U'.heap L ∧ FrameEnd U o U' L ({ frames := 0, cells := 0, slots := 0, locals := 0 } : Room).cells ({ frames := 0, cells := 0, slots := 0, locals := 0 } : Room).slots) := by
  refine MetFree.of_bodySF (plainFor_of_name own_pn3) hisR ?_
  intro p e s m args below meth c s₁ Bd hml0 hP hK
  obtain ⟨rfl, hZ, hh⟩ := hP
  have hx := Bd.exec
  have hby := Bd.bytes
  have hml : c.maxLocals = 2 := hml0
  have hown : s.vm.findClass "com/example/outlay/outlay/ByteWriterVarintSizePinLaw" = some m.cls := findClass_of_methodNamed Bd.named
  have hnm := (name_of_methodNamed Bd.named Bd.method).1
  have X0 : Stand p l e ({ frames := 0, cells := 0, slots := 0, locals := 0 } : Room) s m #[(.long u0)] below meth c s₁ [] 0 0 := Stand.of_body Bd
  have e0 : s₁.heap = h0 := by rw [← hh, Bd.state]; rfl
  have N0 := Fr.nil n0
  refine own_in ?_
  refine own_st (fun _ k => castTop (ef_2 m u0) k) ?_
  have K0 : Keep h0 h0 [] := Keep.refl h0 []
  show own_Go _ _ _ _ (s₁.setTop (mkF m 0 #[.val (.long u0), .second] []))
  refine own_st (fun _ k => XS.lloadN X0.here hx rfl (hb hby d2_0) rfl k) ?_
  show own_Go _ _ _ _ (s₁.setTop (mkF m 1 #[.val (.long u0), .second] [(.long u0)]))
  refine own_st (fun _ k => X0.ldc2Long hx hown (mvT hZ (hw _ (List.mem_of_getElem? (i := 9) rfl))) (g := (mkF m 1 #[.val (.long u0), .second] [(.long u0)])) rfl (hb hby d2_1) _ k) ?_
  show own_Go _ _ _ _ (s₁.setTop (mkF m 4 #[.val (.long u0), .second] [(.long (128 : Int64)), (.long u0)]))
  refine own_st (fun _ k => XS.lcmp X0.here hx rfl (hb hby d2_4) rfl k) ?_
  show own_Go _ _ _ _ (s₁.setTop (mkF m 5 #[.val (.long u0), .second] [(.int (lcmpW u0 (128 : Int64)))]))
  by_cases hc23 : (lcmpW u0 (128 : Int64)) < (0 : Int32)
  · skip
    refine own_st (fun _ k => XS.ifNo X0.here hx rfl (hb hby d2_5) rfl ((if0 _ _).trans (tlt hc23).2.1) k) ?_
    show own_Go _ _ _ _ (s₁.setTop (mkF m 8 #[.val (.long u0), .second] []))
    refine own_st (fun _ k => XS.iconst X0.here hx rfl (hb hby d2_8) k) ?_
    show own_Go _ _ _ _ (s₁.setTop (mkF m 9 #[.val (.long u0), .second] [(.int (1 : Int32))]))
    obtain ⟨fs, hr, hrun, hended, hW, hsame⟩ := X0.leave (v := some (.int (1 : Int32))) (fun h => by rw [Bd.returns] at h; cases h)
    refine own_out (own_retI X0 hx Bd.returns (hb hby d2_9) hr) ⟨hrun, hended, _, _, rfl, ?_, ⟨_, rfl⟩, hW, hsame.mono (by decide) (by decide)⟩
    show Q2 Z u0 h0 n0 _ s₁.heap _
    have hv : own_ex u0 = (1 : Int32) := by
      unfold own_ex
      rw [if_pos hc23]
    exact ⟨by rw [hv], N0, e0⟩
  · skip
    refine own_st (fun _ k => XS.ifYes X0.here hx rfl (pc0 := 5) (pc' := 10) rfl (hb hby d2_5) rfl ((if0 _ _).trans (flt hc23).2.1) (by decide) (by decide) k) ?_
    show own_Go _ _ _ _ (s₁.setTop (mkF m 10 #[.val (.long u0), .second] []))
    refine own_st (fun _ k => XS.lloadN X0.here hx rfl (hb hby d2_10) rfl k) ?_
    show own_Go _ _ _ _ (s₁.setTop (mkF m 11 #[.val (.long u0), .second] [(.long u0)]))
    refine own_st (fun _ k => X0.ldc2Long hx hown (mvT hZ (hw _ (List.mem_of_getElem? (i := 19) rfl))) (g := (mkF m 11 #[.val (.long u0), .second] [(.long u0)])) rfl (hb hby d2_11) _ k) ?_
    show own_Go _ _ _ _ (s₁.setTop (mkF m 14 #[.val (.long u0), .second] [(.long (16384 : Int64)), (.long u0)]))
    refine own_st (fun _ k => XS.lcmp X0.here hx rfl (hb hby d2_14) rfl k) ?_
    show own_Go _ _ _ _ (s₁.setTop (mkF m 15 #[.val (.long u0), .second] [(.int (lcmpW u0 (16384 : Int64)))]))
    by_cases hc24 : (lcmpW u0 (16384 : Int64)) < (0 : Int32)
    · skip
      refine own_st (fun _ k => XS.ifNo X0.here hx rfl (hb hby d2_15) rfl ((if0 _ _).trans (tlt hc24).2.1) k) ?_
      show own_Go _ _ _ _ (s₁.setTop (mkF m 18 #[.val (.long u0), .second] []))
      refine own_st (fun _ k => XS.iconst X0.here hx rfl (hb hby d2_18) k) ?_
      show own_Go _ _ _ _ (s₁.setTop (mkF m 19 #[.val (.long u0), .second] [(.int (2 : Int32))]))
      obtain ⟨fs, hr, hrun, hended, hW, hsame⟩ := X0.leave (v := some (.int (2 : Int32))) (fun h => by rw [Bd.returns] at h; cases h)
      refine own_out (own_retI X0 hx Bd.returns (hb hby d2_19) hr) ⟨hrun, hended, _, _, rfl, ?_, ⟨_, rfl⟩, hW, hsame.mono (by decide) (by decide)⟩
      show Q2 Z u0 h0 n0 _ s₁.heap _
      have hv : own_ex u0 = (2 : Int32) := by
        unfold own_ex
        rw [if_neg hc23, if_pos hc24]
      exact ⟨by rw [hv], N0, e0⟩
    · skip
      refine own_st (fun _ k => XS.ifYes X0.here hx rfl (pc0 := 15) (pc' := 20) rfl (hb hby d2_15) rfl ((if0 _ _).trans (flt hc24).2.1) (by decide) (by decide) k) ?_
      show own_Go _ _ _ _ (s₁.setTop (mkF m 20 #[.val (.long u0), .second] []))
      refine own_st (fun _ k => XS.lloadN X0.here hx rfl (hb hby d2_20) rfl k) ?_
      show own_Go _ _ _ _ (s₁.setTop (mkF m 21 #[.val (.long u0), .second] [(.long u0)]))
      refine own_st (fun _ k => X0.ldc2Long hx hown (mvT hZ (hw _ (List.mem_of_getElem? (i := 20) rfl))) (g := (mkF m 21 #[.val (.long u0), .second] [(.long u0)])) rfl (hb hby d2_21) _ k) ?_
      show own_Go _ _ _ _ (s₁.setTop (mkF m 24 #[.val (.long u0), .second] [(.long (2097152 : Int64)), (.long u0)]))
      refine own_st (fun _ k => XS.lcmp X0.here hx rfl (hb hby d2_24) rfl k) ?_
      show own_Go _ _ _ _ (s₁.setTop (mkF m 25 #[.val (.long u0), .second] [(.int (lcmpW u0 (2097152 : Int64)))]))
      by_cases hc25 : (lcmpW u0 (2097152 : Int64)) < (0 : Int32)
      · skip
        refine own_st (fun _ k => XS.ifNo X0.here hx rfl (hb hby d2_25) rfl ((if0 _ _).trans (tlt hc25).2.1) k) ?_
        show own_Go _ _ _ _ (s₁.setTop (mkF m 28 #[.val (.long u0), .second] []))
        refine own_st (fun _ k => XS.iconst X0.here hx rfl (hb hby d2_28) k) ?_
        show own_Go _ _ _ _ (s₁.setTop (mkF m 29 #[.val (.long u0), .second] [(.int (3 : Int32))]))
        obtain ⟨fs, hr, hrun, hended, hW, hsame⟩ := X0.leave (v := some (.int (3 : Int32))) (fun h => by rw [Bd.returns] at h; cases h)
        refine own_out (own_retI X0 hx Bd.returns (hb hby d2_29) hr) ⟨hrun, hended, _, _, rfl, ?_, ⟨_, rfl⟩, hW, hsame.mono (by decide) (by decide)⟩
        show Q2 Z u0 h0 n0 _ s₁.heap _
        have hv : own_ex u0 = (3 : Int32) := by
          unfold own_ex
          rw [if_neg hc23, if_neg hc24, if_pos hc25]
        exact ⟨by rw [hv], N0, e0⟩
      · skip
        refine own_st (fun _ k => XS.ifYes X0.here hx rfl (pc0 := 25) (pc' := 30) rfl (hb hby d2_25) rfl ((if0 _ _).trans (flt hc25).2.1) (by decide) (by decide) k) ?_
        show own_Go _ _ _ _ (s₁.setTop (mkF m 30 #[.val (.long u0), .second] []))
        refine own_st (fun _ k => XS.lloadN X0.here hx rfl (hb hby d2_30) rfl k) ?_
        show own_Go _ _ _ _ (s₁.setTop (mkF m 31 #[.val (.long u0), .second] [(.long u0)]))
        refine own_st (fun _ k => X0.ldc2Long hx hown (mvT hZ (hw _ (List.mem_of_getElem? (i := 21) rfl))) (g := (mkF m 31 #[.val (.long u0), .second] [(.long u0)])) rfl (hb hby d2_31) _ k) ?_
        show own_Go _ _ _ _ (s₁.setTop (mkF m 34 #[.val (.long u0), .second] [(.long (268435456 : Int64)), (.long u0)]))
        refine own_st (fun _ k => XS.lcmp X0.here hx rfl (hb hby d2_34) rfl k) ?_
        show own_Go _ _ _ _ (s₁.setTop (mkF m 35 #[.val (.long u0), .second] [(.int (lcmpW u0 (268435456 : Int64)))]))
        by_cases hc26 : (lcmpW u0 (268435456 : Int64)) < (0 : Int32)
        · skip
          refine own_st (fun _ k => XS.ifNo X0.here hx rfl (hb hby d2_35) rfl ((if0 _ _).trans (tlt hc26).2.1) k) ?_
          show own_Go _ _ _ _ (s₁.setTop (mkF m 38 #[.val (.long u0), .second] []))
          refine own_st (fun _ k => XS.iconst X0.here hx rfl (hb hby d2_38) k) ?_
          show own_Go _ _ _ _ (s₁.setTop (mkF m 39 #[.val (.long u0), .second] [(.int (4 : Int32))]))
          obtain ⟨fs, hr, hrun, hended, hW, hsame⟩ := X0.leave (v := some (.int (4 : Int32))) (fun h => by rw [Bd.returns] at h; cases h)
          refine own_out (own_retI X0 hx Bd.returns (hb hby d2_39) hr) ⟨hrun, hended, _, _, rfl, ?_, ⟨_, rfl⟩, hW, hsame.mono (by decide) (by decide)⟩
          show Q2 Z u0 h0 n0 _ s₁.heap _
          have hv : own_ex u0 = (4 : Int32) := by
            unfold own_ex
            rw [if_neg hc23, if_neg hc24, if_neg hc25, if_pos hc26]
          exact ⟨by rw [hv], N0, e0⟩
        · skip
          refine own_st (fun _ k => XS.ifYes X0.here hx rfl (pc0 := 35) (pc' := 40) rfl (hb hby d2_35) rfl ((if0 _ _).trans (flt hc26).2.1) (by decide) (by decide) k) ?_
          show own_Go _ _ _ _ (s₁.setTop (mkF m 40 #[.val (.long u0), .second] []))
          refine own_st (fun _ k => XS.lloadN X0.here hx rfl (hb hby d2_40) rfl k) ?_
          show own_Go _ _ _ _ (s₁.setTop (mkF m 41 #[.val (.long u0), .second] [(.long u0)]))
          refine own_st (fun _ k => X0.ldc2Long hx hown (mvT hZ (hw _ (List.mem_of_getElem? (i := 22) rfl))) (g := (mkF m 41 #[.val (.long u0), .second] [(.long u0)])) rfl (hb hby d2_41) _ k) ?_
          show own_Go _ _ _ _ (s₁.setTop (mkF m 44 #[.val (.long u0), .second] [(.long (34359738368 : Int64)), (.long u0)]))
          refine own_st (fun _ k => XS.lcmp X0.here hx rfl (hb hby d2_44) rfl k) ?_
          show own_Go _ _ _ _ (s₁.setTop (mkF m 45 #[.val (.long u0), .second] [(.int (lcmpW u0 (34359738368 : Int64)))]))
          by_cases hc27 : (lcmpW u0 (34359738368 : Int64)) < (0 : Int32)
          · skip
            refine own_st (fun _ k => XS.ifNo X0.here hx rfl (hb hby d2_45) rfl ((if0 _ _).trans (tlt hc27).2.1) k) ?_
            show own_Go _ _ _ _ (s₁.setTop (mkF m 48 #[.val (.long u0), .second] []))
            refine own_st (fun _ k => XS.iconst X0.here hx rfl (hb hby d2_48) k) ?_
            show own_Go _ _ _ _ (s₁.setTop (mkF m 49 #[.val (.long u0), .second] [(.int (5 : Int32))]))
            obtain ⟨fs, hr, hrun, hended, hW, hsame⟩ := X0.leave (v := some (.int (5 : Int32))) (fun h => by rw [Bd.returns] at h; cases h)
            refine own_out (own_retI X0 hx Bd.returns (hb hby d2_49) hr) ⟨hrun, hended, _, _, rfl, ?_, ⟨_, rfl⟩, hW, hsame.mono (by decide) (by decide)⟩
            show Q2 Z u0 h0 n0 _ s₁.heap _
            have hv : own_ex u0 = (5 : Int32) := by
              unfold own_ex
              rw [if_neg hc23, if_neg hc24, if_neg hc25, if_neg hc26, if_pos hc27]
            exact ⟨by rw [hv], N0, e0⟩
          · skip
            refine own_st (fun _ k => XS.ifYes X0.here hx rfl (pc0 := 45) (pc' := 50) rfl (hb hby d2_45) rfl ((if0 _ _).trans (flt hc27).2.1) (by decide) (by decide) k) ?_
            show own_Go _ _ _ _ (s₁.setTop (mkF m 50 #[.val (.long u0), .second] []))
            refine own_st (fun _ k => XS.lloadN X0.here hx rfl (hb hby d2_50) rfl k) ?_
            show own_Go _ _ _ _ (s₁.setTop (mkF m 51 #[.val (.long u0), .second] [(.long u0)]))
            refine own_st (fun _ k => X0.ldc2Long hx hown (mvT hZ (hw _ (List.mem_of_getElem? (i := 23) rfl))) (g := (mkF m 51 #[.val (.long u0), .second] [(.long u0)])) rfl (hb hby d2_51) _ k) ?_
            show own_Go _ _ _ _ (s₁.setTop (mkF m 54 #[.val (.long u0), .second] [(.long (4398046511104 : Int64)), (.long u0)]))
            refine own_st (fun _ k => XS.lcmp X0.here hx rfl (hb hby d2_54) rfl k) ?_
            show own_Go _ _ _ _ (s₁.setTop (mkF m 55 #[.val (.long u0), .second] [(.int (lcmpW u0 (4398046511104 : Int64)))]))
            by_cases hc28 : (lcmpW u0 (4398046511104 : Int64)) < (0 : Int32)
            · skip
              refine own_st (fun _ k => XS.ifNo X0.here hx rfl (hb hby d2_55) rfl ((if0 _ _).trans (tlt hc28).2.1) k) ?_
              show own_Go _ _ _ _ (s₁.setTop (mkF m 58 #[.val (.long u0), .second] []))
              refine own_st (fun _ k => XS.bipush X0.here hx rfl (hb hby d2_58) k) ?_
              show own_Go _ _ _ _ (s₁.setTop (mkF m 60 #[.val (.long u0), .second] [(.int (6 : Int32))]))
              obtain ⟨fs, hr, hrun, hended, hW, hsame⟩ := X0.leave (v := some (.int (6 : Int32))) (fun h => by rw [Bd.returns] at h; cases h)
              refine own_out (own_retI X0 hx Bd.returns (hb hby d2_60) hr) ⟨hrun, hended, _, _, rfl, ?_, ⟨_, rfl⟩, hW, hsame.mono (by decide) (by decide)⟩
              show Q2 Z u0 h0 n0 _ s₁.heap _
              have hv : own_ex u0 = (6 : Int32) := by
                unfold own_ex
                rw [if_neg hc23, if_neg hc24, if_neg hc25, if_neg hc26, if_neg hc27, if_pos hc28]
              exact ⟨by rw [hv], N0, e0⟩
            · skip
              refine own_st (fun _ k => XS.ifYes X0.here hx rfl (pc0 := 55) (pc' := 61) rfl (hb hby d2_55) rfl ((if0 _ _).trans (flt hc28).2.1) (by decide) (by decide) k) ?_
              show own_Go _ _ _ _ (s₁.setTop (mkF m 61 #[.val (.long u0), .second] []))
              refine own_st (fun _ k => XS.lloadN X0.here hx rfl (hb hby d2_61) rfl k) ?_
              show own_Go _ _ _ _ (s₁.setTop (mkF m 62 #[.val (.long u0), .second] [(.long u0)]))
              refine own_st (fun _ k => X0.ldc2Long hx hown (mvT hZ (hw _ (List.mem_of_getElem? (i := 24) rfl))) (g := (mkF m 62 #[.val (.long u0), .second] [(.long u0)])) rfl (hb hby d2_62) _ k) ?_
              show own_Go _ _ _ _ (s₁.setTop (mkF m 65 #[.val (.long u0), .second] [(.long (562949953421312 : Int64)), (.long u0)]))
              refine own_st (fun _ k => XS.lcmp X0.here hx rfl (hb hby d2_65) rfl k) ?_
              show own_Go _ _ _ _ (s₁.setTop (mkF m 66 #[.val (.long u0), .second] [(.int (lcmpW u0 (562949953421312 : Int64)))]))
              by_cases hc29 : (lcmpW u0 (562949953421312 : Int64)) < (0 : Int32)
              · skip
                refine own_st (fun _ k => XS.ifNo X0.here hx rfl (hb hby d2_66) rfl ((if0 _ _).trans (tlt hc29).2.1) k) ?_
                show own_Go _ _ _ _ (s₁.setTop (mkF m 69 #[.val (.long u0), .second] []))
                refine own_st (fun _ k => XS.bipush X0.here hx rfl (hb hby d2_69) k) ?_
                show own_Go _ _ _ _ (s₁.setTop (mkF m 71 #[.val (.long u0), .second] [(.int (7 : Int32))]))
                obtain ⟨fs, hr, hrun, hended, hW, hsame⟩ := X0.leave (v := some (.int (7 : Int32))) (fun h => by rw [Bd.returns] at h; cases h)
                refine own_out (own_retI X0 hx Bd.returns (hb hby d2_71) hr) ⟨hrun, hended, _, _, rfl, ?_, ⟨_, rfl⟩, hW, hsame.mono (by decide) (by decide)⟩
                show Q2 Z u0 h0 n0 _ s₁.heap _
                have hv : own_ex u0 = (7 : Int32) := by
                  unfold own_ex
                  rw [if_neg hc23, if_neg hc24, if_neg hc25, if_neg hc26, if_neg hc27, if_neg hc28, if_pos hc29]
                exact ⟨by rw [hv], N0, e0⟩
              · skip
                refine own_st (fun _ k => XS.ifYes X0.here hx rfl (pc0 := 66) (pc' := 72) rfl (hb hby d2_66) rfl ((if0 _ _).trans (flt hc29).2.1) (by decide) (by decide) k) ?_
                show own_Go _ _ _ _ (s₁.setTop (mkF m 72 #[.val (.long u0), .second] []))
                refine own_st (fun _ k => XS.lloadN X0.here hx rfl (hb hby d2_72) rfl k) ?_
                show own_Go _ _ _ _ (s₁.setTop (mkF m 73 #[.val (.long u0), .second] [(.long u0)]))
                refine own_st (fun _ k => X0.ldc2Long hx hown (mvT hZ (hw _ (List.mem_of_getElem? (i := 25) rfl))) (g := (mkF m 73 #[.val (.long u0), .second] [(.long u0)])) rfl (hb hby d2_73) _ k) ?_
                show own_Go _ _ _ _ (s₁.setTop (mkF m 76 #[.val (.long u0), .second] [(.long (72057594037927936 : Int64)), (.long u0)]))
                refine own_st (fun _ k => XS.lcmp X0.here hx rfl (hb hby d2_76) rfl k) ?_
                show own_Go _ _ _ _ (s₁.setTop (mkF m 77 #[.val (.long u0), .second] [(.int (lcmpW u0 (72057594037927936 : Int64)))]))
                by_cases hc30 : (lcmpW u0 (72057594037927936 : Int64)) < (0 : Int32)
                · skip
                  refine own_st (fun _ k => XS.ifNo X0.here hx rfl (hb hby d2_77) rfl ((if0 _ _).trans (tlt hc30).2.1) k) ?_
                  show own_Go _ _ _ _ (s₁.setTop (mkF m 80 #[.val (.long u0), .second] []))
                  refine own_st (fun _ k => XS.bipush X0.here hx rfl (hb hby d2_80) k) ?_
                  show own_Go _ _ _ _ (s₁.setTop (mkF m 82 #[.val (.long u0), .second] [(.int (8 : Int32))]))
                  obtain ⟨fs, hr, hrun, hended, hW, hsame⟩ := X0.leave (v := some (.int (8 : Int32))) (fun h => by rw [Bd.returns] at h; cases h)
                  refine own_out (own_retI X0 hx Bd.returns (hb hby d2_82) hr) ⟨hrun, hended, _, _, rfl, ?_, ⟨_, rfl⟩, hW, hsame.mono (by decide) (by decide)⟩
                  show Q2 Z u0 h0 n0 _ s₁.heap _
                  have hv : own_ex u0 = (8 : Int32) := by
                    unfold own_ex
                    rw [if_neg hc23, if_neg hc24, if_neg hc25, if_neg hc26, if_neg hc27, if_neg hc28, if_neg hc29, if_pos hc30]
                  exact ⟨by rw [hv], N0, e0⟩
                · skip
                  refine own_st (fun _ k => XS.ifYes X0.here hx rfl (pc0 := 77) (pc' := 83) rfl (hb hby d2_77) rfl ((if0 _ _).trans (flt hc30).2.1) (by decide) (by decide) k) ?_
                  show own_Go _ _ _ _ (s₁.setTop (mkF m 83 #[.val (.long u0), .second] []))
                  refine own_st (fun _ k => XS.bipush X0.here hx rfl (hb hby d2_83) k) ?_
                  show own_Go _ _ _ _ (s₁.setTop (mkF m 85 #[.val (.long u0), .second] [(.int (9 : Int32))]))
                  obtain ⟨fs, hr, hrun, hended, hW, hsame⟩ := X0.leave (v := some (.int (9 : Int32))) (fun h => by rw [Bd.returns] at h; cases h)
                  refine own_out (own_retI X0 hx Bd.returns (hb hby d2_85) hr) ⟨hrun, hended, _, _, rfl, ?_, ⟨_, rfl⟩, hW, hsame.mono (by decide) (by decide)⟩
                  show Q2 Z u0 h0 n0 _ s₁.heap _
                  have hv : own_ex u0 = (9 : Int32) := by
                    unfold own_ex
                    rw [if_neg hc23, if_neg hc24, if_neg hc25, if_neg hc26, if_neg hc27, if_neg hc28, if_neg hc29, if_neg hc30]
                  exact ⟨by rw [hv], N0, e0⟩
theorem own_s16 (x : Int32) : ((x.toUInt32 >>> ((16 : Int32) &&& 31).toUInt32).toInt32).toInt = (x.toInt % 4294967296) / 65536 := c_iushr x 16 16 (by decide) (by decide)
theorem own_s8 (x : Int32) : ((x.toUInt32 >>> ((8 : Int32) &&& 31).toUInt32).toInt32).toInt = (x.toInt % 4294967296) / 256 := c_iushr x 8 8 (by decide) (by decide)
theorem own_s4 (x : Int32) : ((x.toUInt32 >>> ((4 : Int32) &&& 31).toUInt32).toInt32).toInt = (x.toInt % 4294967296) / 16 := c_iushr x 4 4 (by decide) (by decide)
theorem own_s2 (x : Int32) : ((x.toUInt32 >>> ((2 : Int32) &&& 31).toUInt32).toInt32).toInt = (x.toInt % 4294967296) / 4 := c_iushr x 2 2 (by decide) (by decide)
theorem own_s1 (x : Int32) : ((x.toUInt32 >>> ((1 : Int32) &&& 31).toUInt32).toInt32).toInt = (x.toInt % 4294967296) / 2 := c_iushr x 1 1 (by decide) (by decide)
theorem own_subr (n y : Int32) (h : 0 ≤ y.toInt ∧ y.toInt ≤ 1) (hn : 1 ≤ n.toInt ∧ n.toInt ≤ 31) : (n - y).toInt = n.toInt - y.toInt := by
  have a := c_isub n y
  have r := rng32 (n - y)
  omega
set_option maxHeartbeats 4000000 in
theorem own_z (x : Int32) (h0 : (0 : Int32) < x) : (1 ≤ (own_z32 x).toInt ∧ (own_z32 x).toInt ≤ 31) ∧ (29 ≤ (own_z32 x).toInt ↔ x.toInt < 8) ∧ (25 ≤ (own_z32 x).toInt ↔ x.toInt < 128) ∧ (22 ≤ (own_z32 x).toInt ↔ x.toInt < 1024) ∧ (18 ≤ (own_z32 x).toInt ↔ x.toInt < 16384) ∧ (15 ≤ (own_z32 x).toInt ↔ x.toInt < 131072) ∧ (11 ≤ (own_z32 x).toInt ↔ x.toInt < 2097152) ∧ (8 ≤ (own_z32 x).toInt ↔ x.toInt < 16777216) ∧ (4 ≤ (own_z32 x).toInt ↔ x.toInt < 268435456) := by
  have r := rng32 x
  unfold own_z32
  rw [if_pos h0]
  simp only [Int32.lt_iff_toInt_lt, Int32.reduceToInt] at h0
  repeat' split
  all_goals
    simp only [Int32.lt_iff_toInt_lt, own_s16, own_s8, own_s4, own_s2, own_s1, Int32.reduceToInt] at *
    rw [own_subr _ _ (by simp only [own_s16, own_s8, own_s4, own_s2, own_s1]; omega) (by decide)]
    simp only [own_s16, own_s8, own_s4, own_s2, own_s1, Int32.reduceToInt]
    refine ⟨⟨?_, ?_⟩, ?_, ?_, ?_, ?_, ?_, ?_, ?_, ?_⟩ <;> omega
theorem own_zn (x : Int32) (h : x < (0 : Int32)) : own_z32 x = (0 : Int32) := by
  unfold own_z32
  simp only [Int32.lt_iff_toInt_lt, Int32.reduceToInt] at h
  rw [if_neg (by simp only [Int32.lt_iff_toInt_lt, Int32.reduceToInt]; omega), if_neg (by simp only [← Int32.toInt_inj, Int32.reduceToInt]; omega)]
theorem own_hi (v : Int64) (h : 0 ≤ v.toInt) : (((v.toUInt64 >>> ((32 : Int32) &&& 0x3f).toInt64.toUInt64).toInt64).toInt32).toInt = v.toInt / 4294967296 := by
  have a := c_lushr v 32 32 (by decide) (by decide)
  have b := c_l2i ((v.toUInt64 >>> ((32 : Int32) &&& 0x3f).toInt64.toUInt64).toInt64)
  have r := rng32 (((v.toUInt64 >>> ((32 : Int32) &&& 0x3f).toInt64.toUInt64).toInt64).toInt32)
  have rv := rng64 v
  omega
set_option maxHeartbeats 4000000 in
theorem own_zz (v : Int64) (h : 0 < v.toInt) : (1 ≤ (own_z64 v).toInt ∧ (own_z64 v).toInt ≤ 63) ∧ (57 ≤ (own_z64 v).toInt ↔ v.toInt < 128) ∧ (50 ≤ (own_z64 v).toInt ↔ v.toInt < 16384) ∧ (43 ≤ (own_z64 v).toInt ↔ v.toInt < 2097152) ∧ (36 ≤ (own_z64 v).toInt ↔ v.toInt < 268435456) ∧ (29 ≤ (own_z64 v).toInt ↔ v.toInt < 34359738368) ∧ (22 ≤ (own_z64 v).toInt ↔ v.toInt < 4398046511104) ∧ (15 ≤ (own_z64 v).toInt ↔ v.toInt < 562949953421312) ∧ (8 ≤ (own_z64 v).toInt ↔ v.toInt < 72057594037927936) := by
  have hh := own_hi v (by omega)
  have rv := rng64 v
  unfold own_z64
  split
  · rename_i q
    have q' := congrArg Int32.toInt q
    rw [hh] at q'
    simp only [Int32.reduceToInt] at q'
    have a := c_l2i v
    have rl := rng32 v.toInt32
    have s1 := c_iadd (32 : Int32) (own_z32 v.toInt32)
    have s2 := rng32 ((32 : Int32) + own_z32 v.toInt32)
    simp only [Int32.reduceToInt] at s1
    by_cases hp : (0 : Int32) < v.toInt32
    · have z := own_z _ hp
      simp only [Int32.lt_iff_toInt_lt, Int32.reduceToInt] at hp
      refine ⟨⟨?_, ?_⟩, ?_, ?_, ?_, ?_, ?_, ?_, ?_, ?_⟩ <;> omega
    · have hn : v.toInt32 < (0 : Int32) := by
        simp only [Int32.lt_iff_toInt_lt, Int32.reduceToInt] at *; omega
      rw [own_zn _ hn] at s1 s2 ⊢
      simp only [Int32.lt_iff_toInt_lt, Int32.reduceToInt] at *
      refine ⟨⟨?_, ?_⟩, ?_, ?_, ?_, ?_, ?_, ?_, ?_, ?_⟩ <;> omega
  · rename_i q
    rw [← Int32.toInt_inj, hh] at q
    simp only [Int32.reduceToInt] at q
    have hp : (0 : Int32) < (((v.toUInt64 >>> ((32 : Int32) &&& 0x3f).toInt64.toUInt64).toInt64).toInt32) := by
      rw [Int32.lt_iff_toInt_lt, hh]; simp only [Int32.reduceToInt]; omega
    have z := own_z _ hp
    rw [hh] at z
    refine ⟨⟨?_, ?_⟩, ?_, ?_, ?_, ?_, ?_, ?_, ?_, ?_⟩ <;> omega
set_option maxHeartbeats 4000000 in
theorem own_eq (v : Int64) (h : 0 ≤ v.toInt) : own_vs v = own_ex v := by
  unfold own_vs
  by_cases hz : (lcmpW v (0 : Int64)) = (0 : Int32)
  · rw [if_pos hz]
    rw [lw_eq] at hz
    subst hz
    decide
  · rw [if_neg hz]
    rw [lw_eq, ← Int64.toInt_inj] at hz
    simp only [Int64.reduceToInt] at hz
    have z := own_zz v (by omega)
    have s1 := c_isub (64 : Int32) (own_z64 v)
    have s2 := rng32 ((64 : Int32) - own_z64 v)
    have s3 := c_iadd ((64 : Int32) - own_z64 v) (6 : Int32)
    have s4 := rng32 (((64 : Int32) - own_z64 v) + (6 : Int32))
    simp only [Int32.reduceToInt] at s1 s3
    have e : (((64 : Int32) - own_z64 v) + (6 : Int32)).toInt = 70 - (own_z64 v).toInt := by omega
    have d := (c_idiv (((64 : Int32) - own_z64 v) + (6 : Int32)) 7 7 rfl (by decide)).1 (by omega)
    rw [e] at d
    apply Int32.toInt_inj.mp
    rw [d]
    unfold own_ex
    simp only [lw_lt, Int64.lt_iff_toInt_lt, Int64.reduceToInt]
    repeat' split
    all_goals
      simp only [Int32.reduceToInt]
      omega
theorem own_nn (x : Int64) (y : Int64) : 0 ≤ (x &&& (9223372036854775807 : Int64)).toInt := by
  rw [c_maskL x 9223372036854775807 63 (by decide) (by decide)]
  omega
theorem own_pd2 : parseMethodDescriptor "(JI)Z" = some ⟨[.long, .int], some .boolean⟩ := by decide +kernel
def Q0 (Z : State) (u0 : Int64) (u1 : Int32) (h0 : Heap) (n0 : Nat) (v : Option Value) (h : Heap) (L : List Loc) : Prop := v = some (.int 1) ∧ Fr n0 L
theorem ef_0 (m : MethodId) (x0 : Int64) (x1 : Int32) : entryFrame m #[(.long x0), (.int x1)] maxLocals = mkF m 0 #[.val (.long x0), .second, .val (.int x1), .unset, .unset] [] := by first | (simp [entryFrame, mkF, argsToLocals, Value.category, maxLocals]; done) | rfl
set_option maxRecDepth 65536 in
set_option maxHeartbeats 40000000 in
theorem rm0 (l : Launch) (Z : State) (a0 : Array Value) (hw : ∀ d ∈ tables_1, d.before a0 Z = true) (ws : List Jvm.Cond) (u0 : Int64) (u1 : Int32) (h0 : Heap) (n0 : Nat) (Z0 : n0 ≤ h0.size)  :
    MetFree l x (head1 (Jvm.Cond.code x code maxLocals ret :: ws) room_1) (fun a U => a = #[(.long u0), (.int u1)] ∧ Z.Warmed39 U.vm ∧ U.heap = h0) (fun _ _ _ _ _ => True) (fun _ U o U' => ∃ v L, o = .returned v ∧ Q0 Z u0 u1 h0 n0 v U'.heap L ∧ FrameEnd U o U' L 0 0) := by
  refine MetFree.of_bodySF (plainFor_of_name own_pn3) hisR ?_
  intro p e s m args below meth c s₁ Bd hml0 hP hK
  obtain ⟨rfl, hZ, hh⟩ := hP
  have hx := Bd.exec
  have hby := Bd.bytes
  have hml : c.maxLocals = 5 := hml0
  have hown : s.vm.findClass "com/example/outlay/outlay/ByteWriterVarintSizePinLaw" = some m.cls := findClass_of_methodNamed Bd.named
  have hnm := (name_of_methodNamed Bd.named Bd.method).1
  have X0 : Stand p l e room_1 s m #[(.long u0), (.int u1)] below meth c s₁ [] 0 0 := Stand.of_body Bd
  have e0 : s₁.heap = h0 := by rw [← hh, Bd.state]; rfl
  have N0 := Fr.nil n0
  refine own_in ?_
  refine own_st (fun _ k => castTop (ef_0 m u0 u1) k) ?_
  have K0 : Keep h0 h0 [] := Keep.refl h0 []
  show own_Go _ _ _ _ (s₁.setTop (mkF m 0 #[.val (.long u0), .second, .val (.int u1), .unset, .unset] []))
  refine own_st (fun _ k => XS.lloadN X0.here hx rfl (hb hby at_0) rfl k) ?_
  show own_Go _ _ _ _ (s₁.setTop (mkF m 1 #[.val (.long u0), .second, .val (.int u1), .unset, .unset] [(.long u0)]))
  refine own_st (fun _ k => XS.iloadN X0.here hx rfl (hb hby at_1) rfl k) ?_
  show own_Go _ _ _ _ (s₁.setTop (mkF m 2 #[.val (.long u0), .second, .val (.int u1), .unset, .unset] [(.int u1), (.long u0)]))
  refine own_st (fun _ k => XS.bipush X0.here hx rfl (hb hby at_2) k) ?_
  show own_Go _ _ _ _ (s₁.setTop (mkF m 4 #[.val (.long u0), .second, .val (.int u1), .unset, .unset] [(.int (63 : Int32)), (.int u1), (.long u0)]))
  refine own_st (fun _ k => XS.iand X0.here hx rfl (hb hby at_4) rfl k) ?_
  show own_Go _ _ _ _ (s₁.setTop (mkF m 5 #[.val (.long u0), .second, .val (.int u1), .unset, .unset] [(.int (u1 &&& (63 : Int32))), (.long u0)]))
  refine own_st (fun _ k => XS.lushr X0.here hx rfl (hb hby at_5) rfl k) ?_
  show own_Go _ _ _ _ (s₁.setTop (mkF m 6 #[.val (.long u0), .second, .val (.int u1), .unset, .unset] [(.long ((u0.toUInt64 >>> ((u1 &&& (63 : Int32)) &&& 0x3f).toInt64.toUInt64).toInt64))]))
  refine own_st (fun _ k => X0.ldc2Long hx hown (mvT hZ (hw _ (List.mem_of_getElem? (i := 0) rfl))) (g := (mkF m 6 #[.val (.long u0), .second, .val (.int u1), .unset, .unset] [(.long ((u0.toUInt64 >>> ((u1 &&& (63 : Int32)) &&& 0x3f).toInt64.toUInt64).toInt64))])) rfl (hb hby at_6) _ k) ?_
  show own_Go _ _ _ _ (s₁.setTop (mkF m 9 #[.val (.long u0), .second, .val (.int u1), .unset, .unset] [(.long (9223372036854775807 : Int64)), (.long ((u0.toUInt64 >>> ((u1 &&& (63 : Int32)) &&& 0x3f).toInt64.toUInt64).toInt64))]))
  refine own_st (fun _ k => XS.land X0.here hx rfl (hb hby at_9) rfl k) ?_
  show own_Go _ _ _ _ (s₁.setTop (mkF m 10 #[.val (.long u0), .second, .val (.int u1), .unset, .unset] [(.long (((u0.toUInt64 >>> ((u1 &&& (63 : Int32)) &&& 0x3f).toInt64.toUInt64).toInt64) &&& (9223372036854775807 : Int64)))]))
  refine own_st (fun _ k => XS.lstoreN X0.here hx rfl (hb hby at_10) rfl (l' := #[.val (.long u0), .second, .val (.int u1), .val (.long (((u0.toUInt64 >>> ((u1 &&& (63 : Int32)) &&& 0x3f).toInt64.toUInt64).toInt64) &&& (9223372036854775807 : Int64))), .second]) rfl k) ?_
  show own_Go _ _ _ _ (s₁.setTop (mkF m 11 #[.val (.long u0), .second, .val (.int u1), .val (.long (((u0.toUInt64 >>> ((u1 &&& (63 : Int32)) &&& 0x3f).toInt64.toUInt64).toInt64) &&& (9223372036854775807 : Int64))), .second] []))
  refine own_st (fun _ k => XS.lloadN X0.here hx rfl (hb hby at_11) rfl k) ?_
  show own_Go _ _ _ _ (s₁.setTop (mkF m 12 #[.val (.long u0), .second, .val (.int u1), .val (.long (((u0.toUInt64 >>> ((u1 &&& (63 : Int32)) &&& 0x3f).toInt64.toUInt64).toInt64) &&& (9223372036854775807 : Int64))), .second] [(.long (((u0.toUInt64 >>> ((u1 &&& (63 : Int32)) &&& 0x3f).toInt64.toUInt64).toInt64) &&& (9223372036854775807 : Int64)))]))
  obtain ⟨_, _, ⟨T31, L31, k31, n31⟩, -, X31, ⟨Lc31, hQ31, l31, y31, z31⟩, st31⟩ := Jvm.LawKit.callS X0 hx (y := (⟨"com/example/outlay/outlay/ByteWriter", "varintSize", "(J)I"⟩ : MethodName)) hown (mvT hZ (hw _ (List.mem_of_getElem? (i := 1) rfl))) (mvT hZ (hw _ (List.mem_of_getElem? (i := 2) rfl))) (mvT hZ (hw _ (List.mem_of_getElem? (i := 3) rfl))) (mvT hZ (hw _ (List.mem_of_getElem? (i := 4) rfl))) (by decide) (backOf (W := 0) (rm1 l Z a0 hw [] (((u0.toUInt64 >>> ((u1 &&& (63 : Int32)) &&& 0x3f).toInt64.toUInt64).toInt64) &&& (9223372036854775807 : Int64)) h0 n0 Z0 ) hZ (hw _ (List.mem_of_getElem? (i := 4) rfl)) (hw _ (List.mem_of_getElem? (i := 3) rfl)) (by decide) (by decide)) (g := (mkF m 12 #[.val (.long u0), .second, .val (.int u1), .val (.long (((u0.toUInt64 >>> ((u1 &&& (63 : Int32)) &&& 0x3f).toInt64.toUInt64).toInt64) &&& (9223372036854775807 : Int64))), .second] [(.long (((u0.toUInt64 >>> ((u1 &&& (63 : Int32)) &&& 0x3f).toInt64.toUInt64).toInt64) &&& (9223372036854775807 : Int64)))])) rfl (by rw [hml]; rfl) (argsL := [(.long (((u0.toUInt64 >>> ((u1 &&& (63 : Int32)) &&& 0x3f).toInt64.toUInt64).toInt64) &&& (9223372036854775807 : Int64)))]) (rest := []) (lenOf own_pd1 rfl) rfl (by show 2 * 0 + _ ≤ _; exact Nat.le_of_eq rfl) (hb hby at_12) (fun _ _ => ⟨rfl, e0, (by decide : 0 + 0 ≤ _), (by decide : 0 + 0 ≤ _)⟩)
  dsimp only [Pt.U, Pt.locs, Pt.cells, Pt.slots] at X31 l31 y31 z31 st31 hQ31
  subst l31 y31 z31
  obtain ⟨rfl, Nq31, eq31⟩ := hQ31
  have N31 := Fr.app N0 Nq31
  refine own_st st31 ?_
  show own_Go _ _ _ _ (T31.setTop (mkF m 15 #[.val (.long u0), .second, .val (.int u1), .val (.long (((u0.toUInt64 >>> ((u1 &&& (63 : Int32)) &&& 0x3f).toInt64.toUInt64).toInt64) &&& (9223372036854775807 : Int64))), .second] [(.int (own_vs (((u0.toUInt64 >>> ((u1 &&& (63 : Int32)) &&& 0x3f).toInt64.toUInt64).toInt64) &&& (9223372036854775807 : Int64))))]))
  refine own_st (fun _ k => XS.lloadN X31.here hx rfl (hb hby at_15) rfl k) ?_
  show own_Go _ _ _ _ (T31.setTop (mkF m 16 #[.val (.long u0), .second, .val (.int u1), .val (.long (((u0.toUInt64 >>> ((u1 &&& (63 : Int32)) &&& 0x3f).toInt64.toUInt64).toInt64) &&& (9223372036854775807 : Int64))), .second] [(.long (((u0.toUInt64 >>> ((u1 &&& (63 : Int32)) &&& 0x3f).toInt64.toUInt64).toInt64) &&& (9223372036854775807 : Int64))), (.int (own_vs (((u0.toUInt64 >>> ((u1 &&& (63 : Int32)) &&& 0x3f).toInt64.toUInt64).toInt64) &&& (9223372036854775807 : Int64))))]))
  obtain ⟨_, _, ⟨T32, L32, k32, n32⟩, -, X32, ⟨Lc32, hQ32, l32, y32, z32⟩, st32⟩ := Jvm.LawKit.callS X31 hx (y := (⟨"com/example/outlay/outlay/ByteWriterVarintSizePinLaw", "expected", "(J)I"⟩ : MethodName)) hown (mvT hZ (hw _ (List.mem_of_getElem? (i := 5) rfl))) (mvT hZ (hw _ (List.mem_of_getElem? (i := 6) rfl))) (mvT hZ (hw _ (List.mem_of_getElem? (i := 7) rfl))) (mvT hZ (hw _ (List.mem_of_getElem? (i := 8) rfl))) (by decide) (backOf (W := 1) (rm2 l Z a0 hw [] (((u0.toUInt64 >>> ((u1 &&& (63 : Int32)) &&& 0x3f).toInt64.toUInt64).toInt64) &&& (9223372036854775807 : Int64)) h0 n0 Z0 ) hZ (hw _ (List.mem_of_getElem? (i := 8) rfl)) (hw _ (List.mem_of_getElem? (i := 7) rfl)) (by decide) (by decide)) (g := (mkF m 16 #[.val (.long u0), .second, .val (.int u1), .val (.long (((u0.toUInt64 >>> ((u1 &&& (63 : Int32)) &&& 0x3f).toInt64.toUInt64).toInt64) &&& (9223372036854775807 : Int64))), .second] [(.long (((u0.toUInt64 >>> ((u1 &&& (63 : Int32)) &&& 0x3f).toInt64.toUInt64).toInt64) &&& (9223372036854775807 : Int64))), (.int (own_vs (((u0.toUInt64 >>> ((u1 &&& (63 : Int32)) &&& 0x3f).toInt64.toUInt64).toInt64) &&& (9223372036854775807 : Int64))))])) rfl (by rw [hml]; rfl) (argsL := [(.long (((u0.toUInt64 >>> ((u1 &&& (63 : Int32)) &&& 0x3f).toInt64.toUInt64).toInt64) &&& (9223372036854775807 : Int64)))]) (rest := [(.int (own_vs (((u0.toUInt64 >>> ((u1 &&& (63 : Int32)) &&& 0x3f).toInt64.toUInt64).toInt64) &&& (9223372036854775807 : Int64))))]) (lenOf own_pd1 rfl) rfl (by show 2 * 0 + _ ≤ _; exact Nat.le_of_eq rfl) (hb hby at_16) (fun _ _ => ⟨rfl, eq31, (by decide : 0 + 0 ≤ _), (by decide : 0 + 0 ≤ _)⟩)
  dsimp only [Pt.U, Pt.locs, Pt.cells, Pt.slots] at X32 l32 y32 z32 st32 hQ32
  subst l32 y32 z32
  obtain ⟨rfl, Nq32, eq32⟩ := hQ32
  have N32 := Fr.app N31 Nq32
  refine own_st st32 ?_
  show own_Go _ _ _ _ (T32.setTop (mkF m 19 #[.val (.long u0), .second, .val (.int u1), .val (.long (((u0.toUInt64 >>> ((u1 &&& (63 : Int32)) &&& 0x3f).toInt64.toUInt64).toInt64) &&& (9223372036854775807 : Int64))), .second] [(.int (own_ex (((u0.toUInt64 >>> ((u1 &&& (63 : Int32)) &&& 0x3f).toInt64.toUInt64).toInt64) &&& (9223372036854775807 : Int64)))), (.int (own_vs (((u0.toUInt64 >>> ((u1 &&& (63 : Int32)) &&& 0x3f).toInt64.toUInt64).toInt64) &&& (9223372036854775807 : Int64))))]))
  refine own_st (fun _ k => XS.icmpNo X32.here hx rfl (hb hby at_19) rfl (teq (own_eq _ (own_nn _ 0))).2 k) ?_
  show own_Go _ _ _ _ (T32.setTop (mkF m 22 #[.val (.long u0), .second, .val (.int u1), .val (.long (((u0.toUInt64 >>> ((u1 &&& (63 : Int32)) &&& 0x3f).toInt64.toUInt64).toInt64) &&& (9223372036854775807 : Int64))), .second] []))
  refine own_st (fun _ k => XS.iconst X32.here hx rfl (hb hby at_22) k) ?_
  show own_Go _ _ _ _ (T32.setTop (mkF m 23 #[.val (.long u0), .second, .val (.int u1), .val (.long (((u0.toUInt64 >>> ((u1 &&& (63 : Int32)) &&& 0x3f).toInt64.toUInt64).toInt64) &&& (9223372036854775807 : Int64))), .second] [(.int (1 : Int32))]))
  refine own_st (fun _ k => XS.goto X32.here hx rfl (pc0 := 23) (pc' := 27) rfl (hb hby at_23) (by decide) (by decide) k) ?_
  show own_Go _ _ _ _ (T32.setTop (mkF m 27 #[.val (.long u0), .second, .val (.int u1), .val (.long (((u0.toUInt64 >>> ((u1 &&& (63 : Int32)) &&& 0x3f).toInt64.toUInt64).toInt64) &&& (9223372036854775807 : Int64))), .second] [(.int (1 : Int32))]))
  obtain ⟨fs, hr, hrun, hended, hW, hsame⟩ := X32.leave (v := some (.int (1 : Int32))) (fun h => by rw [Bd.returns] at h; cases h)
  refine own_out (retN X32 hx (t := .boolean) Bd.returns (by simp) (hb hby at_27) hr) ⟨hrun, hended, _, _, rfl, ?_, ⟨_, rfl⟩, hW, hsame.mono (by decide) (by decide)⟩
  show Q0 Z u0 u1 h0 n0 _ T32.heap _
  exact ⟨rfl, N32⟩
set_option maxRecDepth 65536 in
set_option maxHeartbeats 40000000 in
theorem comes_1 {Post : Tables → Env → Array Value → State → Outcome → State → Prop} (hpost : ∀ tb e args s v u, (limb_1_1.after args s (.returned v) u = true ∧ limb_1_2.after args s (.returned v) u = true ∧ True) → FrameEnd s (.returned v) u (Jvm.fieldLocs frame_1_writes args s ++ Jvm.arrayLocs frame_1_arrays args s ++ Jvm.staticLocs frame_1_statics s) 0 0 → Post tb e args s (.returned v) u) :
    ArmFor flags0 classFile x code maxLocals ret World_1 tables_1 room_1 Calls_1 rest_1 Pre_1 Post := by
  intro l hfl _ _ p e ha hc hk s m args below hf hA hF happ hP
  obtain ⟨hcalls, hrest, hpre⟩ := hP
  obtain ⟨-, -, -, hnamed, -, -, -, hat⟩ := (Spec.applies_iff hf).mp happ
  obtain ⟨hg, hn⟩ := and_e (Cond.before_iff.mp (show (Jvm.Cond.and given_1 narrow_1).before args s = true from hpre))
  obtain ⟨h1, h2⟩ := and_e hg
  obtain ⟨ha0, h2⟩ := and_e h2
  have ha1 := h2
  obtain ⟨w0, w1, rfl⟩ : ∃ w0 w1 : Value, args = #[w0, w1] := by
    have hs : args.size = 2 := by simpa [Cond.value, given_1] using h1
    obtain ⟨L⟩ := args
    match L, hs with
    | [w0, w1], _ => exact ⟨w0, w1, rfl⟩
  have hw := fun d (hd : d ∈ tables_1) => atoms_spec (ws := Jvm.Cond.code x code maxLocals ret :: tables_1) hat d (List.mem_cons_of_mem _ hd)
  obtain ⟨i0, ei0⟩ := isL_v ha0
  obtain rfl : w0 = (.long i0) := Option.some.inj ei0
  obtain ⟨i1, ei1⟩ := is_v ha1
  obtain rfl : w1 = (.int i1) := Option.some.inj ei1
  obtain ⟨n, o, h1, h2, h3, _, L, rfl, ⟨rfl, N⟩, hq⟩ := rm0 l s _ hw tables_1 i0 i1 s.heap s.heap.size (Nat.le_refl _)  p e ha hc hk s m _ below hf ((Spec.applies_iff_loose hf).mp happ).1 ⟨rfl, State.Warmed39.refl s, rfl⟩ trivial
  refine ⟨n, _, h1, h2, h3, hpost _ _ _ _ _ _ ⟨Cond.after_iff.mpr rfl, Cond.after_iff.mpr (eq_i res_at (Term.int_eval (1)) rfl), trivial⟩ ⟨hq.1, hq.2.1, (hq.2.2.sift fun y hy => Or.inr (N y hy)).mono (by decide) (by decide)⟩⟩
theorem main_1_1 : Claimed_1_1 := comes_1 fun _ _ _ _ _ _ h hF => ⟨h.1, hF⟩
theorem main_1_2 : Claimed_1_2 := comes_1 fun _ _ _ _ _ _ h hF => ⟨h.2.1, hF⟩
end Jvm.Pilot.@@N@@
namespace Jvm.Pilot.@@N@@
open Jvm Jvm.ClassFile Sem Op Lib Jvm.Free Jvm.Stand Jvm.Pilot.@@N@@.Jvm.D
/-! MADE BY PROGRAM (witnessworld.py) out of the Statement's table words and the real class files: 15 classes; the members and pool entries that the words name. The judged class is class 1, her method 1. -/
namespace start1
open Jvm.ClassFile
def u (s : String) : CpInfo := .utf8 (stringToUtf16 s)
/-- a pool by its gaps: so many unusable entries, then the entry; so many at the end -/
def gap : Nat → List CpInfo → List CpInfo
  | 0, r => r
  | n + 1, r => .unusable :: gap n r
def poolList (es : List (Nat × CpInfo)) (last : Nat) : List CpInfo := es.foldr (fun e r => gap e.1 (e.2 :: r)) (gap last [])
def pool (es : List (Nat × CpInfo)) (last : Nat) : Array CpInfo := ⟨poolList es last⟩
def fileOf (pool : Array CpInfo) (this : Nat) (attrs : Array Attribute := #[]) (ms : Array MethodInfo := #[]) (fl : Nat := 33) (sup : Nat := 0) (ifs : Array Nat := #[]) (fds : Array FieldInfo := #[]) : ClassFile where
  minorVersion := 0
  majorVersion := 65
  constantPool := pool
  accessFlags := fl
  thisClass := this
  superClass := sup
  interfaces := ifs
  fields := fds
  methods := ms
  attributes := attrs
def plain (name : String) (sup : Option ClassId) : Class where
  name := name
  kind := .ordinary
  loader := none
  accessFlags := 33
  super := sup
  interfaces := #[]
  cf := none
  fields := #[]
  methods := #[]
  instanceTypes := #[]
  staticTypes := #[]
  resolved := #[]
  callSites := []
  init := .initialized
  statics := none
  mirror := none

def pool0 : Array CpInfo := pool [(5, u "<init>"), (0, u "()V"), (1, .class_ 10), (1, u "java/lang/Object")] 113

def k0m0 : Method := { name := "<init>", desc := "()V", sig := { parameters := [], returnType := none }, accessFlags := 1, code := none }
/-- java/lang/Object -/
def k0 : Class := { plain "java/lang/Object" none with
  accessFlags := 33
  interfaces := #[]
  cf := some (fileOf pool0 8 #[] #[{ accessFlags := 1, nameIndex := 5, descriptorIndex := 6, attributes := #[] }] 33 0 #[] #[])
  fields := #[]
  methods := #[k0m0]
  instanceTypes := #[]
  staticTypes := #[]
  resolved := Array.replicate 124 none
  statics := none }

def pool1 : Array CpInfo := pool [(2, .class_ 4), (1, u "java/lang/Object"), (0, u "<init>"), (0, u "()V"), (2, .long 9223372036854775807), (1, .methodref 12 13), (0, .class_ 14), (0, .nameAndType 15 16), (0, u "com/example/outlay/outlay/ByteWriter"), (0, u "varintSize"), (0, u "(J)I"), (0, .methodref 18 19), (0, .class_ 20), (0, .nameAndType 21 16), (0, u "com/example/outlay/outlay/ByteWriterVarintSizePinLaw"), (0, u "expected"), (0, .long 128), (1, .long 16384), (1, .long 2097152), (1, .long 268435456), (1, .long 34359738368), (1, .long 4398046511104), (1, .long 562949953421312), (1, .long 72057594037927936), (3, u "law"), (0, u "(JI)Z")] 3

def k1m0 : Method := { name := "<init>", desc := "()V", sig := { parameters := [], returnType := none }, accessFlags := 1, code := none }
def k1c1 : Code := { maxStack := 4, maxLocals := 5, code := code, exceptionTable := #[], attributes := #[] }
def k1m1 : Method := { name := "law", desc := "(JI)Z", sig := { parameters := [.long, .int], returnType := some .boolean }, accessFlags := 9, code := some k1c1 }
def k1c2 : Code := { maxStack := 4, maxLocals := 2, code := method_3_code, exceptionTable := #[], attributes := #[] }
def k1m2 : Method := { name := "expected", desc := "(J)I", sig := { parameters := [.long], returnType := some .int }, accessFlags := 10, code := some k1c2 }
/-- com/example/outlay/outlay/ByteWriterVarintSizePinLaw -/
def k1 : Class := { plain "com/example/outlay/outlay/ByteWriterVarintSizePinLaw" (some 0) with
  accessFlags := 49
  interfaces := #[]
  cf := some (fileOf pool1 18 #[] #[{ accessFlags := 1, nameIndex := 5, descriptorIndex := 6, attributes := #[] }, { accessFlags := 9, nameIndex := 40, descriptorIndex := 41, attributes := #[] }, { accessFlags := 10, nameIndex := 21, descriptorIndex := 16, attributes := #[] }] 49 2 #[] #[])
  fields := #[]
  methods := #[k1m0, k1m1, k1m2]
  instanceTypes := #[]
  staticTypes := #[]
  resolved := Array.replicate 45 none
  statics := none }

def pool2 : Array CpInfo := pool [(2, .class_ 4), (1, u "java/lang/Object"), (0, u "<init>"), (0, u "()V"), (1, .class_ 10), (1, u "com/example/outlay/outlay/ByteWriter"), (0, u "bytes"), (0, u "[B"), (0, .methodref 14 15), (0, .class_ 16), (0, .nameAndType 17 18), (0, u "java/lang/Long"), (0, u "numberOfLeadingZeros"), (0, u "(J)I"), (6, u "length"), (0, u "I"), (51, u "varintSize")] 23

def k2m0 : Method := { name := "<init>", desc := "()V", sig := { parameters := [], returnType := none }, accessFlags := 0, code := none }
def k2c1 : Code := { maxStack := 4, maxLocals := 2, code := prog_2_method_2_code, exceptionTable := #[], attributes := #[] }
def k2m1 : Method := { name := "varintSize", desc := "(J)I", sig := { parameters := [.long], returnType := some .int }, accessFlags := 8, code := some k2c1 }
/-- com/example/outlay/outlay/ByteWriter -/
def k2 : Class := { plain "com/example/outlay/outlay/ByteWriter" (some 0) with
  accessFlags := 32
  interfaces := #[]
  cf := some (fileOf pool2 8 #[] #[{ accessFlags := 0, nameIndex := 5, descriptorIndex := 6, attributes := #[] }, { accessFlags := 8, nameIndex := 78, descriptorIndex := 18, attributes := #[] }] 32 2 #[] #[{ accessFlags := 2, nameIndex := 11, descriptorIndex := 12, attributes := #[] }, { accessFlags := 2, nameIndex := 25, descriptorIndex := 26, attributes := #[] }])
  fields := #[{ name := "bytes", type := (.array .byte), accessFlags := 2, slot := 0, constantValue := 0 }, { name := "length", type := .int, accessFlags := 2, slot := 1, constantValue := 0 }]
  methods := #[k2m0, k2m1]
  instanceTypes := #[(.array .byte), .int]
  staticTypes := #[]
  resolved := Array.replicate 102 none
  statics := none }

def pool3 : Array CpInfo := pool [(1, .class_ 2), (0, u "java/io/Serializable"), (0, .class_ 4), (0, u "java/lang/Object")] 2

/-- java/io/Serializable -/
def k3 : Class := { plain "java/io/Serializable" (some 0) with
  accessFlags := 1537
  interfaces := #[]
  cf := some (fileOf pool3 1 #[] #[] 1537 3 #[] #[])
  fields := #[]
  methods := #[]
  instanceTypes := #[]
  staticTypes := #[]
  resolved := Array.replicate 7 none
  statics := none }

def pool4 : Array CpInfo := pool [(2, .class_ 4), (1, u "java/lang/Object"), (0, u "<init>"), (0, u "()V"), (1, .class_ 10), (1, u "java/lang/Number"), (2, .class_ 14), (0, u "java/io/Serializable"), (0, u "serialVersionUID"), (0, u "J")] 20

def k4m0 : Method := { name := "<init>", desc := "()V", sig := { parameters := [], returnType := none }, accessFlags := 1, code := none }
/-- java/lang/Number -/
def k4 : Class := { plain "java/lang/Number" (some 0) with
  accessFlags := 1057
  interfaces := #[3]
  cf := some (fileOf pool4 8 #[] #[{ accessFlags := 1, nameIndex := 5, descriptorIndex := 6, attributes := #[] }] 1057 2 #[13] #[{ accessFlags := 26, nameIndex := 15, descriptorIndex := 16, attributes := #[] }])
  fields := #[{ name := "serialVersionUID", type := .long, accessFlags := 26, slot := 0, constantValue := 0 }]
  methods := #[k4m0]
  instanceTypes := #[]
  staticTypes := #[.long]
  resolved := Array.replicate 37 none
  statics := none }

def pool5 : Array CpInfo := pool [(1, .class_ 2), (0, u "java/lang/Comparable"), (0, .class_ 4), (0, u "java/lang/Object")] 7

/-- java/lang/Comparable -/
def k5 : Class := { plain "java/lang/Comparable" (some 0) with
  accessFlags := 1537
  interfaces := #[]
  cf := some (fileOf pool5 1 #[] #[] 1537 3 #[] #[])
  fields := #[]
  methods := #[]
  instanceTypes := #[]
  staticTypes := #[]
  resolved := Array.replicate 12 none
  statics := none }

def pool6 : Array CpInfo := pool [(1, .class_ 2), (0, u "java/lang/constant/Constable"), (0, .class_ 4), (0, u "java/lang/Object")] 6

/-- java/lang/constant/Constable -/
def k6 : Class := { plain "java/lang/constant/Constable" (some 0) with
  accessFlags := 1537
  interfaces := #[]
  cf := some (fileOf pool6 1 #[] #[] 1537 3 #[] #[])
  fields := #[]
  methods := #[]
  instanceTypes := #[]
  staticTypes := #[]
  resolved := Array.replicate 11 none
  statics := none }

def pool7 : Array CpInfo := pool [(1, .class_ 2), (0, u "java/lang/constant/ConstantDesc"), (0, .class_ 4), (0, u "java/lang/Object")] 32

/-- java/lang/constant/ConstantDesc -/
def k7 : Class := { plain "java/lang/constant/ConstantDesc" (some 0) with
  accessFlags := 1537
  interfaces := #[]
  cf := some (fileOf pool7 1 #[] #[] 1537 3 #[] #[])
  fields := #[]
  methods := #[]
  instanceTypes := #[]
  staticTypes := #[]
  resolved := Array.replicate 37 none
  statics := none }

def pool8 : Array CpInfo := pool [(1, .class_ 2), (0, u "java/lang/Long"), (15, .class_ 20), (1, u "java/lang/Integer"), (79, u "numberOfLeadingZeros"), (0, u "(J)I"), (133, .class_ 237), (1, u "java/lang/Long$LongCache"), (33, .class_ 272), (0, u "java/lang/Number"), (2, u "value"), (0, u "J"), (31, .methodref 18 309), (0, .nameAndType 100 310), (0, u "(I)I"), (50, u "TYPE"), (0, u "Ljava/lang/Class;"), (0, .class_ 364), (0, u "java/lang/Comparable"), (0, .class_ 366), (0, u "java/lang/constant/Constable"), (0, .class_ 368), (0, u "java/lang/constant/ConstantDesc"), (0, u "MIN_VALUE"), (1, u "MAX_VALUE"), (4, u "SIZE"), (0, u "I"), (1, u "BYTES"), (1, u "serialVersionUID")] 142

def k8c0 : Code := { maxStack := 3, maxLocals := 3, code := jdk_35_method_48_code, exceptionTable := #[], attributes := #[] }
def k8m0 : Method := { name := "numberOfLeadingZeros", desc := "(J)I", sig := { parameters := [.long], returnType := some .int }, accessFlags := 9, code := some k8c0 }
/-- java/lang/Long -/
def k8 : Class := { plain "java/lang/Long" (some 4) with
  accessFlags := 49
  interfaces := #[5, 6, 7]
  cf := some (fileOf pool8 1 #[.nestMembers #[235]] #[{ accessFlags := 9, nameIndex := 100, descriptorIndex := 101, attributes := #[] }] 49 271 #[363, 365, 367] #[{ accessFlags := 25, nameIndex := 369, descriptorIndex := 276, attributes := #[] }, { accessFlags := 25, nameIndex := 371, descriptorIndex := 276, attributes := #[] }, { accessFlags := 25, nameIndex := 361, descriptorIndex := 362, attributes := #[] }, { accessFlags := 18, nameIndex := 275, descriptorIndex := 276, attributes := #[] }, { accessFlags := 25, nameIndex := 376, descriptorIndex := 377, attributes := #[] }, { accessFlags := 25, nameIndex := 379, descriptorIndex := 377, attributes := #[] }, { accessFlags := 26, nameIndex := 381, descriptorIndex := 276, attributes := #[] }])
  fields := #[{ name := "MIN_VALUE", type := .long, accessFlags := 25, slot := 0, constantValue := 0 }, { name := "MAX_VALUE", type := .long, accessFlags := 25, slot := 1, constantValue := 0 }, { name := "TYPE", type := (.object "java/lang/Class"), accessFlags := 25, slot := 2, constantValue := 0 }, { name := "value", type := .long, accessFlags := 18, slot := 0, constantValue := 0 }, { name := "SIZE", type := .int, accessFlags := 25, slot := 3, constantValue := 0 }, { name := "BYTES", type := .int, accessFlags := 25, slot := 4, constantValue := 0 }, { name := "serialVersionUID", type := .long, accessFlags := 26, slot := 5, constantValue := 0 }]
  methods := #[k8m0]
  instanceTypes := #[.long]
  staticTypes := #[.long, .long, (.object "java/lang/Class"), .int, .int, .long]
  resolved := Array.replicate 524 none
  statics := none }

def pool9 : Array CpInfo := pool [(1, .class_ 2), (0, u "java/lang/Integer"), (16, u "digits"), (0, u "[C"), (32, u "numberOfLeadingZeros"), (0, u "(I)I"), (30, u "DigitOnes"), (0, u "[B"), (2, u "DigitTens"), (99, .class_ 190), (0, u "java/lang/Integer$IntegerCache"), (3, u "I"), (8, .class_ 204), (0, u "java/lang/Number"), (2, u "value"), (56, .integer 65536), (37, u "TYPE"), (0, u "Ljava/lang/Class;"), (0, .class_ 305), (0, u "java/lang/Comparable"), (0, .class_ 307), (0, u "java/lang/constant/Constable"), (0, .class_ 309), (0, u "java/lang/constant/ConstantDesc"), (0, u "MIN_VALUE"), (1, u "MAX_VALUE"), (3, u "SIZE"), (1, u "BYTES"), (1, u "serialVersionUID"), (0, u "J")] 131

def k9c0 : Code := { maxStack := 3, maxLocals := 2, code := jdk_33_method_47_code, exceptionTable := #[], attributes := #[] }
def k9m0 : Method := { name := "numberOfLeadingZeros", desc := "(I)I", sig := { parameters := [.int], returnType := some .int }, accessFlags := 9, code := some k9c0 }
/-- java/lang/Integer -/
def k9 : Class := { plain "java/lang/Integer" (some 4) with
  accessFlags := 49
  interfaces := #[5, 6, 7]
  cf := some (fileOf pool9 1 #[.nestMembers #[189]] #[{ accessFlags := 9, nameIndex := 53, descriptorIndex := 54, attributes := #[] }] 49 203 #[304, 306, 308] #[{ accessFlags := 25, nameIndex := 310, descriptorIndex := 194, attributes := #[] }, { accessFlags := 25, nameIndex := 312, descriptorIndex := 194, attributes := #[] }, { accessFlags := 25, nameIndex := 302, descriptorIndex := 303, attributes := #[] }, { accessFlags := 24, nameIndex := 19, descriptorIndex := 20, attributes := #[] }, { accessFlags := 24, nameIndex := 89, descriptorIndex := 86, attributes := #[] }, { accessFlags := 24, nameIndex := 85, descriptorIndex := 86, attributes := #[] }, { accessFlags := 18, nameIndex := 207, descriptorIndex := 194, attributes := #[] }, { accessFlags := 25, nameIndex := 316, descriptorIndex := 194, attributes := #[] }, { accessFlags := 25, nameIndex := 318, descriptorIndex := 194, attributes := #[] }, { accessFlags := 26, nameIndex := 320, descriptorIndex := 321, attributes := #[] }])
  fields := #[{ name := "MIN_VALUE", type := .int, accessFlags := 25, slot := 0, constantValue := 0 }, { name := "MAX_VALUE", type := .int, accessFlags := 25, slot := 1, constantValue := 0 }, { name := "TYPE", type := (.object "java/lang/Class"), accessFlags := 25, slot := 2, constantValue := 0 }, { name := "digits", type := (.array .char), accessFlags := 24, slot := 3, constantValue := 0 }, { name := "DigitTens", type := (.array .byte), accessFlags := 24, slot := 4, constantValue := 0 }, { name := "DigitOnes", type := (.array .byte), accessFlags := 24, slot := 5, constantValue := 0 }, { name := "value", type := .int, accessFlags := 18, slot := 0, constantValue := 0 }, { name := "SIZE", type := .int, accessFlags := 25, slot := 6, constantValue := 0 }, { name := "BYTES", type := .int, accessFlags := 25, slot := 7, constantValue := 0 }, { name := "serialVersionUID", type := .long, accessFlags := 26, slot := 8, constantValue := 0 }]
  methods := #[k9m0]
  instanceTypes := #[.int]
  staticTypes := #[.int, .int, (.object "java/lang/Class"), (.array .char), (.array .byte), (.array .byte), .int, .int, .long]
  resolved := Array.replicate 453 none
  statics := none }

def pool10 : Array CpInfo := pool [(1, u "java/lang/Cloneable"), (0, .class_ 1), (0, u "java/lang/Object"), (0, .class_ 3)] 3

/-- java/lang/Cloneable -/
def k10 : Class := { plain "java/lang/Cloneable" (some 0) with
  accessFlags := 1537
  interfaces := #[]
  cf := some (fileOf pool10 2 #[] #[] 1537 4 #[] #[])
  fields := #[]
  methods := #[]
  instanceTypes := #[]
  staticTypes := #[]
  resolved := Array.replicate 8 none
  statics := none }

/-- the primitive byte -/
def k11 : Class := { plain "byte" none with kind := .primitive 'B', accessFlags := 0x411 }
/-- [B -/
def k12 : Class := { plain "[B" (some 0) with kind := .array 11 .byte, interfaces := #[10, 3], accessFlags := 1041 }

/-- the primitive int -/
def k13 : Class := { plain "int" none with kind := .primitive 'I', accessFlags := 0x411 }
/-- [I -/
def k14 : Class := { plain "[I" (some 0) with kind := .array 13 .int, interfaces := #[10, 3], accessFlags := 1041 }

def heap : Heap := #[]
def classes : Array Class := #[k0, k1, k2, k3, k4, k5, k6, k7, k8, k9, k10, k11, k12, k13, k14]
def interned : List (Array UInt16 × Addr) := []
def slotsUsed : Nat := 0
def theMethod : MethodId := ⟨1, 1⟩
def args0 : Array Value := #[.long 5, .int 7]
def aboutOver (below : List Frame) : State where
  vm := { classes := classes, interned := interned.toArray }
  heap := heap
  slotsUsed := slotsUsed
  threads := #[{ frames := .invoking theMethod args0 :: below }]
def below0 : List Frame := [.native { method := ⟨0, 0⟩, args := #[] }]
def about1 : State := aboutOver below0
def p0 : Program := .bare "" "" ""
def e0 : Env := launch0.env 0 0 0
theorem w_frames : about1.frames = Frame.invoking theMethod args0 :: below0 := rfl
set_option maxRecDepth 65536 in
theorem w_args : argsFit about1.vm theMethod args0 = true := by decide +kernel
set_option maxRecDepth 65536 in
theorem w_heap : heapFits about1 = true := by decide +kernel
set_option maxRecDepth 65536 in
theorem w_runnable : about1.curStatus? = some .runnable := by decide +kernel
set_option maxRecDepth 65536 in
theorem w_alone : about1.alone = true := by decide +kernel
set_option maxRecDepth 65536 in
theorem w_named : about1.methodNamed? x = some theMethod := by decide +kernel
set_option maxRecDepth 65536 in
theorem w_hears : about1.hears theMethod below0 = true := by decide +kernel
set_option maxRecDepth 65536 in
theorem w_ripe : about1.ripe theMethod args0 below0 = true := by decide +kernel
theorem w_running : about1.status = .running := rfl
set_option maxRecDepth 65536 in
theorem w_room : about1.hasRoom e0.platform room_1 = true :=
  launch0.hasRoom_least _ room_1 (by decide +kernel) (by decide +kernel) (by decide +kernel) (by decide +kernel) (by decide +kernel) (by decide +kernel)
theorem allAtoms_all (ts : List Jvm.Cond) (a : Array Jvm.Value) (st : Jvm.State) : (allAtoms ts).before a st = ts.all (fun c => c.before a st) := by
  induction ts with
  | nil => rfl
  | cons c t ih =>
    show (Jvm.Cond.and c (allAtoms t)).before a st = _
    rw [Jvm.Cond.before_and, ih, List.all_cons]
def words1 : List Jvm.Cond := Jvm.Cond.code x code maxLocals ret :: tables_1
/-- a 'code' word, met by the world's own term for the bytes: nothing is compared byte by byte -/
theorem code_word {y : MethodName} {bytes : ByteArray} {mx : Nat} {rt : Option FieldType} {a : Array Value} {s : State} {m : MethodId} {meth : Method} {c : Code} (h1 : s.methodNamed? y = some m) (h2 : s.vm.method? m = some meth) (h3 : meth.code = some c) (h4 : c.code = bytes)
    (h5 : (c.maxLocals == mx && c.exceptionTable.isEmpty && decide (c.maxStack ≤ mostOperands) && decide (meth.sig.returnType = rt) && !meth.locks && decide (parseMethodDescriptor y.desc = some meth.sig)) = true) : (Jvm.Cond.code y bytes mx rt).before a s = true := by
  simp only [Bool.and_eq_true, beq_iff_eq, Bool.not_eq_true', decide_eq_true_eq] at h5
  obtain ⟨⟨⟨⟨⟨g1, g2⟩, g3⟩, g4⟩, g5⟩, g6⟩ := h5
  simp [Cond.before, Cond.holds, Cond.value, h1, h2, h3, h4, g1, g2, g3, g4, g5, g6]
def isCode : Jvm.Cond → Bool
  | .code _ _ _ _ => true
  | _ => false
theorem all_split {L : List Jvm.Cond} {P : Jvm.Cond → Bool} (h1 : L.all (fun c => isCode c || P c) = true) (h2 : ∀ c ∈ L.filter isCode, P c = true) : L.all P = true := by
  refine List.all_eq_true.mpr fun c hc => ?_
  have h := List.all_eq_true.mp h1 c hc
  rcases Bool.eq_false_or_eq_true (isCode c) with hi | hi
  · exact h2 c (List.mem_filter.mpr ⟨hc, hi⟩)
  · simpa [hi] using h
set_option maxRecDepth 65536 in
theorem w_c0 : (Jvm.Cond.code x code maxLocals ret).before args0 about1 = true := code_word (m := ⟨1, 1⟩) (meth := k1m1) (c := k1c1) (by decide +kernel) rfl rfl rfl (by decide +kernel)
set_option maxRecDepth 65536 in
theorem w_c1 : (Jvm.Cond.code ({ cls := "com/example/outlay/outlay/ByteWriter", name := "varintSize", desc := "(J)I" } : Jvm.MethodName) prog_2_method_2_code (2 : Nat) (Option.some Jvm.ClassFile.FieldType.int)).before args0 about1 = true := code_word (m := ⟨2, 1⟩) (meth := k2m1) (c := k2c1) (by decide +kernel) rfl rfl rfl (by decide +kernel)
set_option maxRecDepth 65536 in
theorem w_c2 : (Jvm.Cond.code ({ cls := "com/example/outlay/outlay/ByteWriterVarintSizePinLaw", name := "expected", desc := "(J)I" } : Jvm.MethodName) method_3_code (2 : Nat) (Option.some Jvm.ClassFile.FieldType.int)).before args0 about1 = true := code_word (m := ⟨1, 2⟩) (meth := k1m2) (c := k1c2) (by decide +kernel) rfl rfl rfl (by decide +kernel)
set_option maxRecDepth 65536 in
theorem w_c3 : (Jvm.Cond.code ({ cls := "java/lang/Long", name := "numberOfLeadingZeros", desc := "(J)I" } : Jvm.MethodName) jdk_35_method_48_code (3 : Nat) (Option.some Jvm.ClassFile.FieldType.int)).before args0 about1 = true := code_word (m := ⟨8, 0⟩) (meth := k8m0) (c := k8c0) (by decide +kernel) rfl rfl rfl (by decide +kernel)
set_option maxRecDepth 65536 in
theorem w_c4 : (Jvm.Cond.code ({ cls := "java/lang/Integer", name := "numberOfLeadingZeros", desc := "(I)I" } : Jvm.MethodName) jdk_33_method_47_code (2 : Nat) (Option.some Jvm.ClassFile.FieldType.int)).before args0 about1 = true := code_word (m := ⟨9, 0⟩) (meth := k9m0) (c := k9c0) (by decide +kernel) rfl rfl rfl (by decide +kernel)
def codes1 : List Jvm.Cond := [Jvm.Cond.code x code maxLocals ret, Jvm.Cond.code ({ cls := "com/example/outlay/outlay/ByteWriter", name := "varintSize", desc := "(J)I" } : Jvm.MethodName) prog_2_method_2_code (2 : Nat) (Option.some Jvm.ClassFile.FieldType.int), Jvm.Cond.code ({ cls := "com/example/outlay/outlay/ByteWriterVarintSizePinLaw", name := "expected", desc := "(J)I" } : Jvm.MethodName) method_3_code (2 : Nat) (Option.some Jvm.ClassFile.FieldType.int), Jvm.Cond.code ({ cls := "java/lang/Long", name := "numberOfLeadingZeros", desc := "(J)I" } : Jvm.MethodName) jdk_35_method_48_code (3 : Nat) (Option.some Jvm.ClassFile.FieldType.int), Jvm.Cond.code ({ cls := "java/lang/Integer", name := "numberOfLeadingZeros", desc := "(I)I" } : Jvm.MethodName) jdk_33_method_47_code (2 : Nat) (Option.some Jvm.ClassFile.FieldType.int)]
set_option maxRecDepth 65536 in
theorem codes_eq : words1.filter isCode = codes1 := rfl
theorem w_codes : ∀ c ∈ words1.filter isCode, c.before args0 about1 = true := by
  rw [codes_eq]
  intro c hc
  simp only [codes1, List.mem_cons, List.not_mem_nil, or_false] at hc
  rcases hc with rfl | rfl | rfl | rfl | rfl
  · exact w_c0
  · exact w_c1
  · exact w_c2
  · exact w_c3
  · exact w_c4
set_option maxRecDepth 65536 in
theorem w_t1 : (words1.take 24).all (fun c => isCode c || c.before args0 about1) = true := by decide +kernel
set_option maxRecDepth 65536 in
theorem w_t2 : (words1.drop 24).all (fun c => isCode c || c.before args0 about1) = true := by decide +kernel
theorem w_tables : (allAtoms (Jvm.Cond.code x code maxLocals ret :: tables_1)).before args0 about1 = true := by
  rw [allAtoms_all]
  show words1.all (fun c => c.before args0 about1) = true
  refine all_split ?_ w_codes
  rw [← List.take_append_drop 24 words1, List.all_append, w_t1, w_t2]
  rfl
set_option maxRecDepth 65536 in
theorem w_case : (Jvm.Cond.and given_1 narrow_1).before args0 about1 = true := by decide +kernel
theorem w_applies : (headSpec (Jvm.Cond.code x code maxLocals ret :: tables_1) room_1).applies x e0.platform about1 = true :=
  (Spec.applies_iff w_frames).mpr ⟨w_running, w_runnable, w_alone, w_named, w_hears, w_ripe, w_room, w_tables⟩
theorem atStart : AtStart classFile x code maxLocals ret World_1 tables_1 room_1 Calls_1 rest_1 Pre_1 launch0 p0 e0 about1 theMethod args0 below0 :=
  ⟨lists_1, trivial, launch0.admits_env _ _ _, launch0.least_env, fairChoices_fair.cas, fairChoices_fair.clock, w_frames, w_args, w_heap, w_applies, trivial, trivial, w_case⟩
end start1
theorem witness_1 : WitnessClaimed_1 := ⟨start1.p0, start1.e0, start1.about1, start1.theMethod, start1.args0, start1.below0, start1.atStart⟩
end Jvm.Pilot.@@N@@
