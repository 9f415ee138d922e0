import JvmDerived
import JvmDerived.Pilot.@@N@@Statement
import JvmDerived.Pilot.@@N@@Code
set_option linter.unusedVariables false
set_option linter.unusedSimpArgs false
namespace Jvm.Pilot.@@N@@
open Jvm Jvm.ClassFile Sem Op Lib Jvm.Free Jvm.Stand Jvm.LawKit Jvm.RoadKit Bundle Jvm.Pilot.@@N@@.Jvm.D
def own_Go (tb : Tables) (e : Env) (below : List Frame) (P : State → Outcome → Prop) (A : State) : Prop := ∃ s₂ o, Steps tb e below A s₂ ∧ P s₂ o
theorem own_in {tb : Tables} {e : Env} {below : List Frame} {P : State → Outcome → Prop} {A : State} (h : own_Go tb e below P A) : ∃ s₂ o, Steps tb e below A s₂ ∧ P s₂ o := h
theorem own_st {tb : Tables} {e : Env} {below : List Frame} {P : State → Outcome → Prop} {A B : State} (h : ∀ t, Steps tb e below B t → Steps tb e below A t) (k : own_Go tb e below P B) : own_Go tb e below P A := by
  obtain ⟨s₂, o, h1, h2⟩ := k
  exact ⟨s₂, o, h _ h1, h2⟩
theorem own_tr {tb : Tables} {e : Env} {below : List Frame} {P : State → Outcome → Prop} {A B : State} (h : Steps tb e below A B) (k : own_Go tb e below P B) : own_Go tb e below P A := by
  obtain ⟨s₂, o, h1, h2⟩ := k
  exact ⟨s₂, o, h.trans h1, h2⟩
theorem own_out {tb : Tables} {e : Env} {below : List Frame} {P : State → Outcome → Prop} {A B : State} {o : Outcome} (h : Steps tb e below A B) (k : P B o) : own_Go tb e below P A := ⟨B, o, h, k⟩
theorem own_join {ι : Type} {tb : Tables} {e : Env} {below : List Frame} {P : State → Outcome → Prop} {A : State} (B : ι → State) (K : ι → Prop) (hJ : ∀ b, K b → own_Go tb e below P (B b)) (h : (∀ b, K b → own_Go tb e below P (B b)) → own_Go tb e below P A) : own_Go tb e below P A := h hJ
section Own
variable {p : Program} {l : Launch} {e : Env} {R : Room} {s : State} {m : MethodId} {args : Array Value} {below : List Frame} {meth : Method} {c : Code} {T : State} {locs : List Loc} {cells slots : Nat}
theorem own_retI (X : Stand p l e R s m args below meth c T locs cells slots) (hx : p.tables.exec = Jvm.exec) {pc : Nat} {Ls : Array Slot} {z : Int32} {rest : List Value} (hret : meth.sig.returnType = some .int) (hd : decode c.code pc = .ok (.ireturn, 1)) {fs : List Frame}
    (hl : ∀ (f : JFrame) (acts : List Action), f.method = m → f.locked = none → f.entered = [] → (doReturn e (T.setTop f) acts (some (.int z))).1 = T.setFrames fs) : Steps p.tables e below (T.setTop (mkF m pc Ls (.int z :: rest))) (T.setFrames fs) := by
  have hm' : T.vm.method? m = some meth := X.method'
  have hn : narrow .int (.int z) = .int z := rfl
  show Steps p.tables e below (T.setTop { method := m, pc := pc, locals := Ls, stack := _ :: rest, locked := none }) _
  jvm_step X.here [X.here.top, hx, hd, hm', hret, hn]
  first | (intro acts; rw [hl _ acts rfl rfl rfl]) | rw [hl _ _ rfl rfl rfl]
  exact Steps.refl _
end Own
theorem own_narB (x : Int32) : x.toInt8.toInt32.toInt8.toInt32 = x.toInt8.toInt32 := by simp
theorem own_m4 (u : Int32) : (u &&& (3 : Int32)) = (0 : Int32) ∨ (u &&& (3 : Int32)) = (1 : Int32) ∨ (u &&& (3 : Int32)) = (2 : Int32) ∨ (u &&& (3 : Int32)) = (3 : Int32) := by
  have m := c_mask u 3 2 (by decide) (by decide)
  simp only [← Int32.toInt_inj, Int32.reduceToInt]
  omega
def own_min (u0 : Int32) (u1 : Int32) : Int32 := (if u1 < u0 then u1 else u0)
theorem d3_0 : decode jdk_29_method_69_code 0 = .ok (.iload_n 0, 1) := by decide +kernel
theorem d3_1 : decode jdk_29_method_69_code 1 = .ok (.iload_n 1, 1) := by decide +kernel
theorem d3_2 : decode jdk_29_method_69_code 2 = .ok (.if_icmp .gt 7, 3) := by decide +kernel
theorem d3_5 : decode jdk_29_method_69_code 5 = .ok (.iload_n 0, 1) := by decide +kernel
theorem d3_6 : decode jdk_29_method_69_code 6 = .ok (.goto 4, 3) := by decide +kernel
theorem d3_9 : decode jdk_29_method_69_code 9 = .ok (.iload_n 1, 1) := by decide +kernel
theorem d3_10 : decode jdk_29_method_69_code 10 = .ok (.ireturn, 1) := by decide +kernel
theorem own_pd0 : parseMethodDescriptor "(II)I" = some ⟨[.int, .int], some .int⟩ := by decide +kernel
def Q3 (Z : State) (u0 : Int32) (u1 : Int32) (h0 : Heap) (n0 : Nat) (v : Option Value) (h : Heap) (L : List Loc) : Prop := v = some (.int (own_min u0 u1)) ∧ Fr n0 L ∧ h = h0
theorem ef_3 (m : MethodId) (x0 : Int32) (x1 : Int32) : entryFrame m #[(.int x0), (.int x1)] 2 = mkF m 0 #[.val (.int x0), .val (.int x1)] [] := by first | (simp [entryFrame, mkF, argsToLocals, Value.category]; done) | rfl
set_option maxRecDepth 65536 in
set_option maxHeartbeats 40000000 in
theorem rm3 (l : Launch) (Z : State) (a0 : Array Value) (hw : ∀ d ∈ tables_1, d.before a0 Z = true) (ws : List Jvm.Cond) (u0 : Int32) (u1 : Int32) (h0 : Heap) (n0 : Nat) (Z0 : n0 ≤ h0.size)  :
    MetFree l (⟨"java/lang/Math", "min", "(II)I"⟩ : MethodName) (head1 (Jvm.Cond.code (⟨"java/lang/Math", "min", "(II)I"⟩ : MethodName) jdk_29_method_69_code 2 (some .int) :: ws) ({ frames := 0, cells := 0, slots := 0, locals := 0 } : Room)) (fun a U => a = #[(.int u0), (.int u1)] ∧ Z.Warmed39 U.vm ∧ U.heap = h0) (fun _ _ _ _ _ => True) (fun _ U o U' => ∃ v L, o = .returned v ∧ Q3 Z u0 u1 h0 n0 v U'.heap L ∧ FrameEnd U o U' L ({ frames := 0, cells := 0, slots := 0, locals := 0 } : Room).cells ({ frames := 0, cells := 0, slots := 0, locals := 0 } : Room).slots) := by
  refine MetFree.of_bodySF (Jvm.Free.JP.mathPlain rfl (by decide)) hisR ?_
  intro p e s m args below meth c s₁ Bd hml0 hP hK
  obtain ⟨rfl, hZ, hh⟩ := hP
  have hx := Bd.exec
  have hby := Bd.bytes
  have hml : c.maxLocals = 2 := hml0
  have hown : s.vm.findClass "java/lang/Math" = some m.cls := findClass_of_methodNamed Bd.named
  have hnm := (name_of_methodNamed Bd.named Bd.method).1
  have X0 : Stand p l e ({ frames := 0, cells := 0, slots := 0, locals := 0 } : Room) s m #[(.int u0), (.int u1)] below meth c s₁ [] 0 0 := Stand.of_body Bd
  have e0 : s₁.heap = h0 := by rw [← hh, Bd.state]; rfl
  have N0 := Fr.nil n0
  refine own_in ?_
  refine own_st (fun _ k => castTop (ef_3 m u0 u1) k) ?_
  have K0 : Keep h0 h0 [] := Keep.refl h0 []
  show own_Go _ _ _ _ (s₁.setTop (mkF m 0 #[.val (.int u0), .val (.int u1)] []))
  refine own_st (fun _ k => XS.iloadN X0.here hx rfl (hb hby d3_0) rfl k) ?_
  show own_Go _ _ _ _ (s₁.setTop (mkF m 1 #[.val (.int u0), .val (.int u1)] [(.int u0)]))
  refine own_st (fun _ k => XS.iloadN X0.here hx rfl (hb hby d3_1) rfl k) ?_
  show own_Go _ _ _ _ (s₁.setTop (mkF m 2 #[.val (.int u0), .val (.int u1)] [(.int u1), (.int u0)]))
  by_cases hc1 : u1 < u0
  · skip
    refine own_st (fun _ k => XS.icmpYes X0.here hx rfl (pc0 := 2) (pc' := 9) rfl (hb hby d3_2) rfl (tlt hc1).2.2.1 (by decide) (by decide) k) ?_
    show own_Go _ _ _ _ (s₁.setTop (mkF m 9 #[.val (.int u0), .val (.int u1)] []))
    refine own_st (fun _ k => XS.iloadN X0.here hx rfl (hb hby d3_9) rfl k) ?_
    show own_Go _ _ _ _ (s₁.setTop (mkF m 10 #[.val (.int u0), .val (.int u1)] [(.int u1)]))
    obtain ⟨fs, hr, hrun, hended, hW, hsame⟩ := X0.leave (v := some (.int u1)) (fun h => by rw [Bd.returns] at h; cases h)
    refine own_out (own_retI X0 hx Bd.returns (hb hby d3_10) hr) ⟨hrun, hended, _, _, rfl, ?_, ⟨_, rfl⟩, hW, hsame.mono (by decide) (by decide)⟩
    show Q3 Z u0 u1 h0 n0 _ s₁.heap _
    have hv : own_min u0 u1 = u1 := by
      unfold own_min
      rw [if_pos hc1]
    exact ⟨by rw [hv], N0, e0⟩
  · skip
    refine own_st (fun _ k => XS.icmpNo X0.here hx rfl (hb hby d3_2) rfl (flt hc1).2.2.1 k) ?_
    show own_Go _ _ _ _ (s₁.setTop (mkF m 5 #[.val (.int u0), .val (.int u1)] []))
    refine own_st (fun _ k => XS.iloadN X0.here hx rfl (hb hby d3_5) rfl k) ?_
    show own_Go _ _ _ _ (s₁.setTop (mkF m 6 #[.val (.int u0), .val (.int u1)] [(.int u0)]))
    refine own_st (fun _ k => XS.goto X0.here hx rfl (pc0 := 6) (pc' := 10) rfl (hb hby d3_6) (by decide) (by decide) k) ?_
    show own_Go _ _ _ _ (s₁.setTop (mkF m 10 #[.val (.int u0), .val (.int u1)] [(.int u0)]))
    obtain ⟨fs, hr, hrun, hended, hW, hsame⟩ := X0.leave (v := some (.int u0)) (fun h => by rw [Bd.returns] at h; cases h)
    refine own_out (own_retI X0 hx Bd.returns (hb hby d3_10) hr) ⟨hrun, hended, _, _, rfl, ?_, ⟨_, rfl⟩, hW, hsame.mono (by decide) (by decide)⟩
    show Q3 Z u0 u1 h0 n0 _ s₁.heap _
    have hv : own_min u0 u1 = u0 := by
      unfold own_min
      rw [if_neg hc1]
    exact ⟨by rw [hv], N0, e0⟩
theorem d2_0 : decode jdk_65_method_121_code 0 = .ok (.iload_n 1, 1) := by decide +kernel
theorem d2_1 : decode jdk_65_method_121_code 1 = .ok (.aload_n 0, 1) := by decide +kernel
theorem d2_2 : decode jdk_65_method_121_code 2 = .ok (.arraylength, 1) := by decide +kernel
theorem d2_3 : decode jdk_65_method_121_code 3 = .ok (.if_icmp .ne 11, 3) := by decide +kernel
theorem d2_6 : decode jdk_65_method_121_code 6 = .ok (.aload_n 0, 1) := by decide +kernel
theorem d2_7 : decode jdk_65_method_121_code 7 = .ok (.invokevirtual 310, 3) := by decide +kernel
theorem d2_10 : decode jdk_65_method_121_code 10 = .ok (.checkcast 311, 3) := by decide +kernel
theorem d2_13 : decode jdk_65_method_121_code 13 = .ok (.areturn, 1) := by decide +kernel
theorem d2_14 : decode jdk_65_method_121_code 14 = .ok (.iload_n 1, 1) := by decide +kernel
theorem d2_15 : decode jdk_65_method_121_code 15 = .ok (.newarray .byte, 2) := by decide +kernel
theorem d2_17 : decode jdk_65_method_121_code 17 = .ok (.astore_n 2, 1) := by decide +kernel
theorem d2_18 : decode jdk_65_method_121_code 18 = .ok (.aload_n 0, 1) := by decide +kernel
theorem d2_19 : decode jdk_65_method_121_code 19 = .ok (.iconst 0, 1) := by decide +kernel
theorem d2_20 : decode jdk_65_method_121_code 20 = .ok (.aload_n 2, 1) := by decide +kernel
theorem d2_21 : decode jdk_65_method_121_code 21 = .ok (.iconst 0, 1) := by decide +kernel
theorem d2_22 : decode jdk_65_method_121_code 22 = .ok (.aload_n 0, 1) := by decide +kernel
theorem d2_23 : decode jdk_65_method_121_code 23 = .ok (.arraylength, 1) := by decide +kernel
theorem d2_24 : decode jdk_65_method_121_code 24 = .ok (.iload_n 1, 1) := by decide +kernel
theorem d2_25 : decode jdk_65_method_121_code 25 = .ok (.invokestatic 304, 3) := by decide +kernel
theorem d2_28 : decode jdk_65_method_121_code 28 = .ok (.invokestatic 150, 3) := by decide +kernel
theorem d2_31 : decode jdk_65_method_121_code 31 = .ok (.aload_n 2, 1) := by decide +kernel
theorem d2_32 : decode jdk_65_method_121_code 32 = .ok (.areturn, 1) := by decide +kernel
theorem own_pd1 : parseMethodDescriptor "([BI)[B" = some ⟨[(.array .byte), .int], some (.array .byte)⟩ := by decide +kernel
theorem own_pn0 : plainName "java/util/Arrays" = true := by first | (simp [plainName, overriddenIn]; done) | decide +kernel
def Q2_0 (Z : State) (ar : Addr) (kk : ClassId)  (h0 : Heap) (n0 : Nat) (v : Option Value) (h : Heap) (L : List Loc) : Prop := ∃ (b : Addr) (k : ClassId), v = some (.ref b) ∧ Fr n0 L ∧ Keep h0 h [] ∧ h0.size ≤ b ∧ Arv Z h b k .byte (1 : Int32) [.int (0 : Int32)] (.int (0 : Int32))
theorem ef_2_0 (m : MethodId) (x0 : Addr) (x1 : Int32) : entryFrame m #[(.ref x0), (.int x1)] 3 = mkF m 0 #[.val (.ref x0), .val (.int x1), .unset] [] := by first | (simp [entryFrame, mkF, argsToLocals, Value.category]; done) | rfl
set_option maxRecDepth 65536 in
set_option maxHeartbeats 40000000 in
theorem rm2_0 (l : Launch) (Z : State) (a0 : Array Value) (hw : ∀ d ∈ tables_1, d.before a0 Z = true) (ws : List Jvm.Cond) (ar : Addr) (kk : ClassId)  (h0 : Heap) (n0 : Nat) (Z0 : n0 ≤ h0.size) (V_ar : Arv Z h0 ar kk .byte (0 : Int32) [] (.int (0 : Int32))) :
    MetFree l (⟨"java/util/Arrays", "copyOf", "([BI)[B"⟩ : MethodName) (head1 (Jvm.Cond.code (⟨"java/util/Arrays", "copyOf", "([BI)[B"⟩ : MethodName) jdk_65_method_121_code 3 (some (.array .byte)) :: ws) ({ frames := 1, cells := 1, slots := 4, locals := 40 } : Room)) (fun a U => a = #[(.ref ar), (.int (1 : Int32))] ∧ Z.Warmed39 U.vm ∧ U.heap = h0) (fun _ _ _ _ _ => True) (fun _ U o U' => ∃ v L, o = .returned v ∧ Q2_0 Z ar kk h0 n0 v U'.heap L ∧ FrameEnd U o U' L ({ frames := 1, cells := 1, slots := 4, locals := 40 } : Room).cells ({ frames := 1, cells := 1, slots := 4, locals := 40 } : Room).slots) := by
  refine MetFree.of_bodySF (plainFor_of_name own_pn0) hisR ?_
  intro p e s m args below meth c s₁ Bd hml0 hP hK
  obtain ⟨rfl, hZ, hh⟩ := hP
  have hx := Bd.exec
  have hby := Bd.bytes
  have hml : c.maxLocals = 3 := hml0
  have hown : s.vm.findClass "java/util/Arrays" = some m.cls := findClass_of_methodNamed Bd.named
  have hnm := (name_of_methodNamed Bd.named Bd.method).1
  have X0 : Stand p l e ({ frames := 1, cells := 1, slots := 4, locals := 40 } : Room) s m #[(.ref ar), (.int (1 : Int32))] below meth c s₁ [] 0 0 := Stand.of_body Bd
  have e0 : s₁.heap = h0 := by rw [← hh, Bd.state]; rfl
  have N0 := Fr.nil n0
  refine own_in ?_
  refine own_st (fun _ k => castTop (ef_2_0 m ar (1 : Int32)) k) ?_
  have K0 : Keep h0 h0 [] := Keep.refl h0 []
  show own_Go _ _ _ _ (s₁.setTop (mkF m 0 #[.val (.ref ar), .val (.int (1 : Int32)), .unset] []))
  refine own_st (fun _ k => XS.iloadN X0.here hx rfl (hb hby d2_0) rfl k) ?_
  show own_Go _ _ _ _ (s₁.setTop (mkF m 1 #[.val (.ref ar), .val (.int (1 : Int32)), .unset] [(.int (1 : Int32))]))
  refine own_st (fun _ k => XS.aloadN X0.here hx rfl (hb hby d2_1) rfl rfl k) ?_
  show own_Go _ _ _ _ (s₁.setTop (mkF m 2 #[.val (.ref ar), .val (.int (1 : Int32)), .unset] [(.ref ar), (.int (1 : Int32))]))
  obtain ⟨cl2, Ar2, -, Sz2, Nn2, -, -⟩ := id V_ar
  refine own_st (X0.arraylength hx (by rw [e0]; exact Ar2.1) (State.isArrayOf_alike hZ.alike Ar2.2.1) (g := (mkF m 2 #[.val (.ref ar), .val (.int (1 : Int32)), .unset] [(.ref ar), (.int (1 : Int32))])) rfl rfl (hb hby d2_2)) ?_
  rw [len_of Sz2 Nn2]
  show own_Go _ _ _ _ (s₁.setTop (mkF m 3 #[.val (.ref ar), .val (.int (1 : Int32)), .unset] [(.int (0 : Int32)), (.int (1 : Int32))]))
  refine own_st (fun _ k => XS.icmpYes X0.here hx rfl (pc0 := 3) (pc' := 14) rfl (hb hby d2_3) rfl (feq (by decide : ¬ ((1 : Int32) = (0 : Int32)))).2 (by decide) (by decide) k) ?_
  show own_Go _ _ _ _ (s₁.setTop (mkF m 14 #[.val (.ref ar), .val (.int (1 : Int32)), .unset] []))
  refine own_st (fun _ k => XS.iloadN X0.here hx rfl (hb hby d2_14) rfl k) ?_
  show own_Go _ _ _ _ (s₁.setTop (mkF m 15 #[.val (.ref ar), .val (.int (1 : Int32)), .unset] [(.int (1 : Int32))]))
  obtain ⟨T3, h3, k3, X3, e3, E3, A3, st3⟩ := newP X0 hx hZ (hw _ (List.mem_of_getElem? (i := 0) rfl)) e0 (g := (mkF m 15 #[.val (.ref ar), .val (.int (1 : Int32)), .unset] [(.int (1 : Int32))])) rfl (hb hby d2_15) rfl (by decide : ¬ ((1 : Int32) < (0 : Int32))) (cap := 1) (by decide : ((1 : Int32)).toNatClampNeg ≤ 1) (by decide) (by decide) (by decide)
  obtain ⟨b3, g3⟩ : ∃ z, z = h0.size := ⟨_, rfl⟩
  rw [← g3] at A3 st3
  refine own_st st3 ?_
  have near_b3 : ar ≠ b3 := Nat.ne_of_lt (Nat.lt_of_lt_of_le V_ar.lt (Nat.le_of_eq g3.symm))
  have x3_V_ar := V_ar.ext E3
  have Z3 : n0 ≤ h3.size := Nat.le_trans Z0 E3.1
  have gnb3 : n0 ≤ b3 := Nat.le_trans Z0 (Nat.le_of_eq g3.symm)
  have gkb3 : h0.size ≤ b3 := Nat.le_trans K0.1 (Nat.le_of_eq g3.symm)
  have K3 : Keep h0 h3 [] := K0.ext E3
  have V3 : Arv Z h3 b3 k3 .byte (1 : Int32) [(.int (0 : Int32))] (.int (0 : Int32)) := (Arv.new A3 (by decide : ¬ ((1 : Int32) < (0 : Int32)))).pad (pad_rep [] (.int (0 : Int32)) 1)
  show own_Go _ _ _ _ (T3.setTop (mkF m 17 #[.val (.ref ar), .val (.int (1 : Int32)), .unset] [(.ref b3)]))
  refine own_st (fun _ k => XS.astoreN X3.here hx rfl (hb hby d2_17) rfl rfl (l' := #[.val (.ref ar), .val (.int (1 : Int32)), .val (.ref b3)]) rfl k) ?_
  show own_Go _ _ _ _ (T3.setTop (mkF m 18 #[.val (.ref ar), .val (.int (1 : Int32)), .val (.ref b3)] []))
  refine own_st (fun _ k => XS.aloadN X3.here hx rfl (hb hby d2_18) rfl rfl k) ?_
  show own_Go _ _ _ _ (T3.setTop (mkF m 19 #[.val (.ref ar), .val (.int (1 : Int32)), .val (.ref b3)] [(.ref ar)]))
  refine own_st (fun _ k => XS.iconst X3.here hx rfl (hb hby d2_19) k) ?_
  show own_Go _ _ _ _ (T3.setTop (mkF m 20 #[.val (.ref ar), .val (.int (1 : Int32)), .val (.ref b3)] [(.int (0 : Int32)), (.ref ar)]))
  refine own_st (fun _ k => XS.aloadN X3.here hx rfl (hb hby d2_20) rfl rfl k) ?_
  show own_Go _ _ _ _ (T3.setTop (mkF m 21 #[.val (.ref ar), .val (.int (1 : Int32)), .val (.ref b3)] [(.ref b3), (.int (0 : Int32)), (.ref ar)]))
  refine own_st (fun _ k => XS.iconst X3.here hx rfl (hb hby d2_21) k) ?_
  show own_Go _ _ _ _ (T3.setTop (mkF m 22 #[.val (.ref ar), .val (.int (1 : Int32)), .val (.ref b3)] [(.int (0 : Int32)), (.ref b3), (.int (0 : Int32)), (.ref ar)]))
  refine own_st (fun _ k => XS.aloadN X3.here hx rfl (hb hby d2_22) rfl rfl k) ?_
  show own_Go _ _ _ _ (T3.setTop (mkF m 23 #[.val (.ref ar), .val (.int (1 : Int32)), .val (.ref b3)] [(.ref ar), (.int (0 : Int32)), (.ref b3), (.int (0 : Int32)), (.ref ar)]))
  obtain ⟨cl4, Ar4, -, Sz4, Nn4, -, -⟩ := id x3_V_ar
  refine own_st (X3.arraylength hx (by rw [e3]; exact Ar4.1) (State.isArrayOf_alike hZ.alike Ar4.2.1) (g := (mkF m 23 #[.val (.ref ar), .val (.int (1 : Int32)), .val (.ref b3)] [(.ref ar), (.int (0 : Int32)), (.ref b3), (.int (0 : Int32)), (.ref ar)])) rfl rfl (hb hby d2_23)) ?_
  rw [len_of Sz4 Nn4]
  show own_Go _ _ _ _ (T3.setTop (mkF m 24 #[.val (.ref ar), .val (.int (1 : Int32)), .val (.ref b3)] [(.int (0 : Int32)), (.int (0 : Int32)), (.ref b3), (.int (0 : Int32)), (.ref ar)]))
  refine own_st (fun _ k => XS.iloadN X3.here hx rfl (hb hby d2_24) rfl k) ?_
  show own_Go _ _ _ _ (T3.setTop (mkF m 25 #[.val (.ref ar), .val (.int (1 : Int32)), .val (.ref b3)] [(.int (1 : Int32)), (.int (0 : Int32)), (.int (0 : Int32)), (.ref b3), (.int (0 : Int32)), (.ref ar)]))
  obtain ⟨_, _, ⟨T5, L5, k5, n5⟩, -, X5, ⟨Lc5, hQ5, l5, y5, z5⟩, st5⟩ := Jvm.LawKit.callS X3 hx (y := (⟨"java/lang/Math", "min", "(II)I"⟩ : MethodName)) hown (mvT hZ (hw _ (List.mem_of_getElem? (i := 9) rfl))) (mvT hZ (hw _ (List.mem_of_getElem? (i := 10) rfl))) (mvT hZ (hw _ (List.mem_of_getElem? (i := 11) rfl))) (mvT hZ (hw _ (List.mem_of_getElem? (i := 12) rfl))) (by decide) (backOf (W := 4) (rm3 l Z a0 hw [] (0 : Int32) (1 : Int32) h3 n0 Z3 ) hZ (hw _ (List.mem_of_getElem? (i := 12) rfl)) (hw _ (List.mem_of_getElem? (i := 11) rfl)) (by decide) (by decide)) (g := (mkF m 25 #[.val (.ref ar), .val (.int (1 : Int32)), .val (.ref b3)] [(.int (1 : Int32)), (.int (0 : Int32)), (.int (0 : Int32)), (.ref b3), (.int (0 : Int32)), (.ref ar)])) rfl (by rw [hml]; rfl) (argsL := [(.int (0 : Int32)), (.int (1 : Int32))]) (rest := [(.int (0 : Int32)), (.ref b3), (.int (0 : Int32)), (.ref ar)]) (lenOf own_pd0 rfl) rfl (by show 2 * 0 + _ ≤ _; exact Nat.le_of_eq rfl) (hb hby d2_25) (fun _ _ => ⟨rfl, e3, (by decide : 1 + 0 ≤ _), (by decide : 1 + 0 ≤ _)⟩)
  dsimp only [Pt.U, Pt.locs, Pt.cells, Pt.slots] at X5 l5 y5 z5 st5 hQ5
  subst l5 y5 z5
  obtain ⟨rfl, Nq5, eq5⟩ := hQ5
  have N5 := Fr.app N0 Nq5
  refine own_st st5 ?_
  rw [show (own_min (0 : Int32) (1 : Int32)) = (0 : Int32) from by decide]
  show own_Go _ _ _ _ (T5.setTop (mkF m 28 #[.val (.ref ar), .val (.int (1 : Int32)), .val (.ref b3)] [(.int (0 : Int32)), (.int (0 : Int32)), (.ref b3), (.int (0 : Int32)), (.ref ar)]))
  obtain ⟨T6, h6, L6, X6, e6, N6, Kc6, Vc6, st6⟩ := cpA X5 hx hZ hown (hw _ (List.mem_of_getElem? (i := 13) rfl)) (hw _ (List.mem_of_getElem? (i := 16) rfl)) (hw _ (List.mem_of_getElem? (i := 14) rfl)) (hw _ (List.mem_of_getElem? (i := 15) rfl)) eq5 x3_V_ar V3 (us := []) (Or.inl ⟨rfl, rfl⟩) (by decide : ¬ ((0 : Int32) < 0)) (by decide : ¬ ((0 : Int32) < 0)) (by decide : ¬ ((0 : Int32) < 0)) (by decide) (by decide) rfl (Nat.le_of_ble_eq_true rfl) N5 gnb3 (g := (mkF m 28 #[.val (.ref ar), .val (.int (1 : Int32)), .val (.ref b3)] [(.int (0 : Int32)), (.int (0 : Int32)), (.ref b3), (.int (0 : Int32)), (.ref ar)])) rfl (by rw [hml]; rfl) rfl (hb hby d2_28) (by decide) (W := 0) (by show 2 * 0 + _ ≤ _; exact Nat.le_of_eq rfl) (by decide)
  refine own_st st6 ?_
  have V6 : Arv Z h6 b3 k3 .byte (1 : Int32) [(.int (0 : Int32))] (.int (0 : Int32)) := Vc6
  have z6_V_ar := x3_V_ar.keep Kc6 (ninS near_b3 nin0)
  have Z6 : n0 ≤ h6.size := Nat.le_trans Z3 Kc6.1
  have Kk6 : Keep h0 h6 [] := K3.trans Kc6 (allS (Or.inr gkb3) all0)
  show own_Go _ _ _ _ (T6.setTop (mkF m 31 #[.val (.ref ar), .val (.int (1 : Int32)), .val (.ref b3)] []))
  refine own_st (fun _ k => XS.aloadN X6.here hx rfl (hb hby d2_31) rfl rfl k) ?_
  show own_Go _ _ _ _ (T6.setTop (mkF m 32 #[.val (.ref ar), .val (.int (1 : Int32)), .val (.ref b3)] [(.ref b3)]))
  obtain ⟨fs, hr, hrun, hended, hW, hsame⟩ := X6.leave (v := some (.ref b3)) (fun h => by rw [Bd.returns] at h; cases h)
  refine own_out ((by
      jvm_step X6.here [X6.here.top, hx, (hb hby d2_32), X6.method', Bd.returns, Value.isRef, FieldType.isReference]
      first | (intro acts; rw [hr _ acts rfl rfl rfl]) | rw [hr _ _ rfl rfl rfl]
      exact Steps.refl _)) ⟨hrun, hended, _, _, rfl, ?_, ⟨_, rfl⟩, hW, hsame.mono (by decide) (by decide)⟩
  show Q2_0 Z ar kk h0 n0 _ T6.heap _
  rw [e6]
  exact ⟨b3, k3, rfl, N6, Kk6, gkb3, V6⟩
def Q2_1 (Z : State) (ar : Addr) (kk : ClassId) (v0 : Int32) (h0 : Heap) (n0 : Nat) (v : Option Value) (h : Heap) (L : List Loc) : Prop := ∃ (b : Addr) (k : ClassId), v = some (.ref b) ∧ Fr n0 L ∧ Keep h0 h [] ∧ h0.size ≤ b ∧ Arv Z h b k .byte (2 : Int32) [.int v0, .int (0 : Int32)] (.int (0 : Int32))
theorem ef_2_1 (m : MethodId) (x0 : Addr) (x1 : Int32) : entryFrame m #[(.ref x0), (.int x1)] 3 = mkF m 0 #[.val (.ref x0), .val (.int x1), .unset] [] := by first | (simp [entryFrame, mkF, argsToLocals, Value.category]; done) | rfl
set_option maxRecDepth 65536 in
set_option maxHeartbeats 40000000 in
theorem rm2_1 (l : Launch) (Z : State) (a0 : Array Value) (hw : ∀ d ∈ tables_1, d.before a0 Z = true) (ws : List Jvm.Cond) (ar : Addr) (kk : ClassId) (v0 : Int32) (h0 : Heap) (n0 : Nat) (Z0 : n0 ≤ h0.size) (V_ar : Arv Z h0 ar kk .byte (1 : Int32) [.int v0] (.int (0 : Int32))) :
    MetFree l (⟨"java/util/Arrays", "copyOf", "([BI)[B"⟩ : MethodName) (head1 (Jvm.Cond.code (⟨"java/util/Arrays", "copyOf", "([BI)[B"⟩ : MethodName) jdk_65_method_121_code 3 (some (.array .byte)) :: ws) ({ frames := 1, cells := 1, slots := 4, locals := 40 } : Room)) (fun a U => a = #[(.ref ar), (.int (2 : Int32))] ∧ Z.Warmed39 U.vm ∧ U.heap = h0) (fun _ _ _ _ _ => True) (fun _ U o U' => ∃ v L, o = .returned v ∧ Q2_1 Z ar kk v0 h0 n0 v U'.heap L ∧ FrameEnd U o U' L ({ frames := 1, cells := 1, slots := 4, locals := 40 } : Room).cells ({ frames := 1, cells := 1, slots := 4, locals := 40 } : Room).slots) := by
  refine MetFree.of_bodySF (plainFor_of_name own_pn0) hisR ?_
  intro p e s m args below meth c s₁ Bd hml0 hP hK
  obtain ⟨rfl, hZ, hh⟩ := hP
  have hx := Bd.exec
  have hby := Bd.bytes
  have hml : c.maxLocals = 3 := hml0
  have hown : s.vm.findClass "java/util/Arrays" = some m.cls := findClass_of_methodNamed Bd.named
  have hnm := (name_of_methodNamed Bd.named Bd.method).1
  have X0 : Stand p l e ({ frames := 1, cells := 1, slots := 4, locals := 40 } : Room) s m #[(.ref ar), (.int (2 : Int32))] below meth c s₁ [] 0 0 := Stand.of_body Bd
  have e0 : s₁.heap = h0 := by rw [← hh, Bd.state]; rfl
  have N0 := Fr.nil n0
  refine own_in ?_
  refine own_st (fun _ k => castTop (ef_2_1 m ar (2 : Int32)) k) ?_
  have K0 : Keep h0 h0 [] := Keep.refl h0 []
  show own_Go _ _ _ _ (s₁.setTop (mkF m 0 #[.val (.ref ar), .val (.int (2 : Int32)), .unset] []))
  refine own_st (fun _ k => XS.iloadN X0.here hx rfl (hb hby d2_0) rfl k) ?_
  show own_Go _ _ _ _ (s₁.setTop (mkF m 1 #[.val (.ref ar), .val (.int (2 : Int32)), .unset] [(.int (2 : Int32))]))
  refine own_st (fun _ k => XS.aloadN X0.here hx rfl (hb hby d2_1) rfl rfl k) ?_
  show own_Go _ _ _ _ (s₁.setTop (mkF m 2 #[.val (.ref ar), .val (.int (2 : Int32)), .unset] [(.ref ar), (.int (2 : Int32))]))
  obtain ⟨cl7, Ar7, -, Sz7, Nn7, -, -⟩ := id V_ar
  refine own_st (X0.arraylength hx (by rw [e0]; exact Ar7.1) (State.isArrayOf_alike hZ.alike Ar7.2.1) (g := (mkF m 2 #[.val (.ref ar), .val (.int (2 : Int32)), .unset] [(.ref ar), (.int (2 : Int32))])) rfl rfl (hb hby d2_2)) ?_
  rw [len_of Sz7 Nn7]
  show own_Go _ _ _ _ (s₁.setTop (mkF m 3 #[.val (.ref ar), .val (.int (2 : Int32)), .unset] [(.int (1 : Int32)), (.int (2 : Int32))]))
  refine own_st (fun _ k => XS.icmpYes X0.here hx rfl (pc0 := 3) (pc' := 14) rfl (hb hby d2_3) rfl (feq (by decide : ¬ ((2 : Int32) = (1 : Int32)))).2 (by decide) (by decide) k) ?_
  show own_Go _ _ _ _ (s₁.setTop (mkF m 14 #[.val (.ref ar), .val (.int (2 : Int32)), .unset] []))
  refine own_st (fun _ k => XS.iloadN X0.here hx rfl (hb hby d2_14) rfl k) ?_
  show own_Go _ _ _ _ (s₁.setTop (mkF m 15 #[.val (.ref ar), .val (.int (2 : Int32)), .unset] [(.int (2 : Int32))]))
  obtain ⟨T8, h8, k8, X8, e8, E8, A8, st8⟩ := newP X0 hx hZ (hw _ (List.mem_of_getElem? (i := 0) rfl)) e0 (g := (mkF m 15 #[.val (.ref ar), .val (.int (2 : Int32)), .unset] [(.int (2 : Int32))])) rfl (hb hby d2_15) rfl (by decide : ¬ ((2 : Int32) < (0 : Int32))) (cap := 2) (by decide : ((2 : Int32)).toNatClampNeg ≤ 2) (by decide) (by decide) (by decide)
  obtain ⟨b8, g8⟩ : ∃ z, z = h0.size := ⟨_, rfl⟩
  rw [← g8] at A8 st8
  refine own_st st8 ?_
  have near_b8 : ar ≠ b8 := Nat.ne_of_lt (Nat.lt_of_lt_of_le V_ar.lt (Nat.le_of_eq g8.symm))
  have x8_V_ar := V_ar.ext E8
  have Z8 : n0 ≤ h8.size := Nat.le_trans Z0 E8.1
  have gnb8 : n0 ≤ b8 := Nat.le_trans Z0 (Nat.le_of_eq g8.symm)
  have gkb8 : h0.size ≤ b8 := Nat.le_trans K0.1 (Nat.le_of_eq g8.symm)
  have K8 : Keep h0 h8 [] := K0.ext E8
  have V8 : Arv Z h8 b8 k8 .byte (2 : Int32) [(.int (0 : Int32)), (.int (0 : Int32))] (.int (0 : Int32)) := (Arv.new A8 (by decide : ¬ ((2 : Int32) < (0 : Int32)))).pad (pad_rep [] (.int (0 : Int32)) 2)
  show own_Go _ _ _ _ (T8.setTop (mkF m 17 #[.val (.ref ar), .val (.int (2 : Int32)), .unset] [(.ref b8)]))
  refine own_st (fun _ k => XS.astoreN X8.here hx rfl (hb hby d2_17) rfl rfl (l' := #[.val (.ref ar), .val (.int (2 : Int32)), .val (.ref b8)]) rfl k) ?_
  show own_Go _ _ _ _ (T8.setTop (mkF m 18 #[.val (.ref ar), .val (.int (2 : Int32)), .val (.ref b8)] []))
  refine own_st (fun _ k => XS.aloadN X8.here hx rfl (hb hby d2_18) rfl rfl k) ?_
  show own_Go _ _ _ _ (T8.setTop (mkF m 19 #[.val (.ref ar), .val (.int (2 : Int32)), .val (.ref b8)] [(.ref ar)]))
  refine own_st (fun _ k => XS.iconst X8.here hx rfl (hb hby d2_19) k) ?_
  show own_Go _ _ _ _ (T8.setTop (mkF m 20 #[.val (.ref ar), .val (.int (2 : Int32)), .val (.ref b8)] [(.int (0 : Int32)), (.ref ar)]))
  refine own_st (fun _ k => XS.aloadN X8.here hx rfl (hb hby d2_20) rfl rfl k) ?_
  show own_Go _ _ _ _ (T8.setTop (mkF m 21 #[.val (.ref ar), .val (.int (2 : Int32)), .val (.ref b8)] [(.ref b8), (.int (0 : Int32)), (.ref ar)]))
  refine own_st (fun _ k => XS.iconst X8.here hx rfl (hb hby d2_21) k) ?_
  show own_Go _ _ _ _ (T8.setTop (mkF m 22 #[.val (.ref ar), .val (.int (2 : Int32)), .val (.ref b8)] [(.int (0 : Int32)), (.ref b8), (.int (0 : Int32)), (.ref ar)]))
  refine own_st (fun _ k => XS.aloadN X8.here hx rfl (hb hby d2_22) rfl rfl k) ?_
  show own_Go _ _ _ _ (T8.setTop (mkF m 23 #[.val (.ref ar), .val (.int (2 : Int32)), .val (.ref b8)] [(.ref ar), (.int (0 : Int32)), (.ref b8), (.int (0 : Int32)), (.ref ar)]))
  obtain ⟨cl9, Ar9, -, Sz9, Nn9, -, -⟩ := id x8_V_ar
  refine own_st (X8.arraylength hx (by rw [e8]; exact Ar9.1) (State.isArrayOf_alike hZ.alike Ar9.2.1) (g := (mkF m 23 #[.val (.ref ar), .val (.int (2 : Int32)), .val (.ref b8)] [(.ref ar), (.int (0 : Int32)), (.ref b8), (.int (0 : Int32)), (.ref ar)])) rfl rfl (hb hby d2_23)) ?_
  rw [len_of Sz9 Nn9]
  show own_Go _ _ _ _ (T8.setTop (mkF m 24 #[.val (.ref ar), .val (.int (2 : Int32)), .val (.ref b8)] [(.int (1 : Int32)), (.int (0 : Int32)), (.ref b8), (.int (0 : Int32)), (.ref ar)]))
  refine own_st (fun _ k => XS.iloadN X8.here hx rfl (hb hby d2_24) rfl k) ?_
  show own_Go _ _ _ _ (T8.setTop (mkF m 25 #[.val (.ref ar), .val (.int (2 : Int32)), .val (.ref b8)] [(.int (2 : Int32)), (.int (1 : Int32)), (.int (0 : Int32)), (.ref b8), (.int (0 : Int32)), (.ref ar)]))
  obtain ⟨_, _, ⟨T10, L10, k10, n10⟩, -, X10, ⟨Lc10, hQ10, l10, y10, z10⟩, st10⟩ := Jvm.LawKit.callS X8 hx (y := (⟨"java/lang/Math", "min", "(II)I"⟩ : MethodName)) hown (mvT hZ (hw _ (List.mem_of_getElem? (i := 9) rfl))) (mvT hZ (hw _ (List.mem_of_getElem? (i := 10) rfl))) (mvT hZ (hw _ (List.mem_of_getElem? (i := 11) rfl))) (mvT hZ (hw _ (List.mem_of_getElem? (i := 12) rfl))) (by decide) (backOf (W := 4) (rm3 l Z a0 hw [] (1 : Int32) (2 : Int32) h8 n0 Z8 ) hZ (hw _ (List.mem_of_getElem? (i := 12) rfl)) (hw _ (List.mem_of_getElem? (i := 11) rfl)) (by decide) (by decide)) (g := (mkF m 25 #[.val (.ref ar), .val (.int (2 : Int32)), .val (.ref b8)] [(.int (2 : Int32)), (.int (1 : Int32)), (.int (0 : Int32)), (.ref b8), (.int (0 : Int32)), (.ref ar)])) rfl (by rw [hml]; rfl) (argsL := [(.int (1 : Int32)), (.int (2 : Int32))]) (rest := [(.int (0 : Int32)), (.ref b8), (.int (0 : Int32)), (.ref ar)]) (lenOf own_pd0 rfl) rfl (by show 2 * 0 + _ ≤ _; exact Nat.le_of_eq rfl) (hb hby d2_25) (fun _ _ => ⟨rfl, e8, (by decide : 1 + 0 ≤ _), (by decide : 2 + 0 ≤ _)⟩)
  dsimp only [Pt.U, Pt.locs, Pt.cells, Pt.slots] at X10 l10 y10 z10 st10 hQ10
  subst l10 y10 z10
  obtain ⟨rfl, Nq10, eq10⟩ := hQ10
  have N10 := Fr.app N0 Nq10
  refine own_st st10 ?_
  rw [show (own_min (1 : Int32) (2 : Int32)) = (1 : Int32) from by decide]
  show own_Go _ _ _ _ (T10.setTop (mkF m 28 #[.val (.ref ar), .val (.int (2 : Int32)), .val (.ref b8)] [(.int (1 : Int32)), (.int (0 : Int32)), (.ref b8), (.int (0 : Int32)), (.ref ar)]))
  obtain ⟨T11, h11, L11, X11, e11, N11, Kc11, Vc11, st11⟩ := cpA X10 hx hZ hown (hw _ (List.mem_of_getElem? (i := 13) rfl)) (hw _ (List.mem_of_getElem? (i := 16) rfl)) (hw _ (List.mem_of_getElem? (i := 14) rfl)) (hw _ (List.mem_of_getElem? (i := 15) rfl)) eq10 x8_V_ar V8 (us := [(.int v0)]) (Or.inl ⟨rfl, rfl⟩) (by decide : ¬ ((0 : Int32) < 0)) (by decide : ¬ ((0 : Int32) < 0)) (by decide : ¬ ((1 : Int32) < 0)) (by decide) (by decide) rfl (Nat.le_of_ble_eq_true rfl) N10 gnb8 (g := (mkF m 28 #[.val (.ref ar), .val (.int (2 : Int32)), .val (.ref b8)] [(.int (1 : Int32)), (.int (0 : Int32)), (.ref b8), (.int (0 : Int32)), (.ref ar)])) rfl (by rw [hml]; rfl) rfl (hb hby d2_28) (by decide) (W := 0) (by show 2 * 0 + _ ≤ _; exact Nat.le_of_eq rfl) (by decide)
  refine own_st st11 ?_
  have V11 : Arv Z h11 b8 k8 .byte (2 : Int32) [(.int v0), (.int (0 : Int32))] (.int (0 : Int32)) := Vc11
  have z11_V_ar := x8_V_ar.keep Kc11 (ninS near_b8 nin0)
  have Z11 : n0 ≤ h11.size := Nat.le_trans Z8 Kc11.1
  have Kk11 : Keep h0 h11 [] := K8.trans Kc11 (allS (Or.inr gkb8) all0)
  show own_Go _ _ _ _ (T11.setTop (mkF m 31 #[.val (.ref ar), .val (.int (2 : Int32)), .val (.ref b8)] []))
  refine own_st (fun _ k => XS.aloadN X11.here hx rfl (hb hby d2_31) rfl rfl k) ?_
  show own_Go _ _ _ _ (T11.setTop (mkF m 32 #[.val (.ref ar), .val (.int (2 : Int32)), .val (.ref b8)] [(.ref b8)]))
  obtain ⟨fs, hr, hrun, hended, hW, hsame⟩ := X11.leave (v := some (.ref b8)) (fun h => by rw [Bd.returns] at h; cases h)
  refine own_out ((by
      jvm_step X11.here [X11.here.top, hx, (hb hby d2_32), X11.method', Bd.returns, Value.isRef, FieldType.isReference]
      first | (intro acts; rw [hr _ acts rfl rfl rfl]) | rw [hr _ _ rfl rfl rfl]
      exact Steps.refl _)) ⟨hrun, hended, _, _, rfl, ?_, ⟨_, rfl⟩, hW, hsame.mono (by decide) (by decide)⟩
  show Q2_1 Z ar kk v0 h0 n0 _ T11.heap _
  rw [e11]
  exact ⟨b8, k8, rfl, N11, Kk11, gkb8, V11⟩
def Q2_2 (Z : State) (ar : Addr) (kk : ClassId) (v0 : Int32) (v1 : Int32) (h0 : Heap) (n0 : Nat) (v : Option Value) (h : Heap) (L : List Loc) : Prop := ∃ (b : Addr) (k : ClassId), v = some (.ref b) ∧ Fr n0 L ∧ Keep h0 h [] ∧ h0.size ≤ b ∧ Arv Z h b k .byte (3 : Int32) [.int v0, .int v1, .int (0 : Int32)] (.int (0 : Int32))
theorem ef_2_2 (m : MethodId) (x0 : Addr) (x1 : Int32) : entryFrame m #[(.ref x0), (.int x1)] 3 = mkF m 0 #[.val (.ref x0), .val (.int x1), .unset] [] := by first | (simp [entryFrame, mkF, argsToLocals, Value.category]; done) | rfl
set_option maxRecDepth 65536 in
set_option maxHeartbeats 40000000 in
theorem rm2_2 (l : Launch) (Z : State) (a0 : Array Value) (hw : ∀ d ∈ tables_1, d.before a0 Z = true) (ws : List Jvm.Cond) (ar : Addr) (kk : ClassId) (v0 : Int32) (v1 : Int32) (h0 : Heap) (n0 : Nat) (Z0 : n0 ≤ h0.size) (V_ar : Arv Z h0 ar kk .byte (2 : Int32) [.int v0, .int v1] (.int (0 : Int32))) :
    MetFree l (⟨"java/util/Arrays", "copyOf", "([BI)[B"⟩ : MethodName) (head1 (Jvm.Cond.code (⟨"java/util/Arrays", "copyOf", "([BI)[B"⟩ : MethodName) jdk_65_method_121_code 3 (some (.array .byte)) :: ws) ({ frames := 1, cells := 1, slots := 4, locals := 40 } : Room)) (fun a U => a = #[(.ref ar), (.int (3 : Int32))] ∧ Z.Warmed39 U.vm ∧ U.heap = h0) (fun _ _ _ _ _ => True) (fun _ U o U' => ∃ v L, o = .returned v ∧ Q2_2 Z ar kk v0 v1 h0 n0 v U'.heap L ∧ FrameEnd U o U' L ({ frames := 1, cells := 1, slots := 4, locals := 40 } : Room).cells ({ frames := 1, cells := 1, slots := 4, locals := 40 } : Room).slots) := by
  refine MetFree.of_bodySF (plainFor_of_name own_pn0) hisR ?_
  intro p e s m args below meth c s₁ Bd hml0 hP hK
  obtain ⟨rfl, hZ, hh⟩ := hP
  have hx := Bd.exec
  have hby := Bd.bytes
  have hml : c.maxLocals = 3 := hml0
  have hown : s.vm.findClass "java/util/Arrays" = some m.cls := findClass_of_methodNamed Bd.named
  have hnm := (name_of_methodNamed Bd.named Bd.method).1
  have X0 : Stand p l e ({ frames := 1, cells := 1, slots := 4, locals := 40 } : Room) s m #[(.ref ar), (.int (3 : Int32))] below meth c s₁ [] 0 0 := Stand.of_body Bd
  have e0 : s₁.heap = h0 := by rw [← hh, Bd.state]; rfl
  have N0 := Fr.nil n0
  refine own_in ?_
  refine own_st (fun _ k => castTop (ef_2_2 m ar (3 : Int32)) k) ?_
  have K0 : Keep h0 h0 [] := Keep.refl h0 []
  show own_Go _ _ _ _ (s₁.setTop (mkF m 0 #[.val (.ref ar), .val (.int (3 : Int32)), .unset] []))
  refine own_st (fun _ k => XS.iloadN X0.here hx rfl (hb hby d2_0) rfl k) ?_
  show own_Go _ _ _ _ (s₁.setTop (mkF m 1 #[.val (.ref ar), .val (.int (3 : Int32)), .unset] [(.int (3 : Int32))]))
  refine own_st (fun _ k => XS.aloadN X0.here hx rfl (hb hby d2_1) rfl rfl k) ?_
  show own_Go _ _ _ _ (s₁.setTop (mkF m 2 #[.val (.ref ar), .val (.int (3 : Int32)), .unset] [(.ref ar), (.int (3 : Int32))]))
  obtain ⟨cl12, Ar12, -, Sz12, Nn12, -, -⟩ := id V_ar
  refine own_st (X0.arraylength hx (by rw [e0]; exact Ar12.1) (State.isArrayOf_alike hZ.alike Ar12.2.1) (g := (mkF m 2 #[.val (.ref ar), .val (.int (3 : Int32)), .unset] [(.ref ar), (.int (3 : Int32))])) rfl rfl (hb hby d2_2)) ?_
  rw [len_of Sz12 Nn12]
  show own_Go _ _ _ _ (s₁.setTop (mkF m 3 #[.val (.ref ar), .val (.int (3 : Int32)), .unset] [(.int (2 : Int32)), (.int (3 : Int32))]))
  refine own_st (fun _ k => XS.icmpYes X0.here hx rfl (pc0 := 3) (pc' := 14) rfl (hb hby d2_3) rfl (feq (by decide : ¬ ((3 : Int32) = (2 : Int32)))).2 (by decide) (by decide) k) ?_
  show own_Go _ _ _ _ (s₁.setTop (mkF m 14 #[.val (.ref ar), .val (.int (3 : Int32)), .unset] []))
  refine own_st (fun _ k => XS.iloadN X0.here hx rfl (hb hby d2_14) rfl k) ?_
  show own_Go _ _ _ _ (s₁.setTop (mkF m 15 #[.val (.ref ar), .val (.int (3 : Int32)), .unset] [(.int (3 : Int32))]))
  obtain ⟨T13, h13, k13, X13, e13, E13, A13, st13⟩ := newP X0 hx hZ (hw _ (List.mem_of_getElem? (i := 0) rfl)) e0 (g := (mkF m 15 #[.val (.ref ar), .val (.int (3 : Int32)), .unset] [(.int (3 : Int32))])) rfl (hb hby d2_15) rfl (by decide : ¬ ((3 : Int32) < (0 : Int32))) (cap := 3) (by decide : ((3 : Int32)).toNatClampNeg ≤ 3) (by decide) (by decide) (by decide)
  obtain ⟨b13, g13⟩ : ∃ z, z = h0.size := ⟨_, rfl⟩
  rw [← g13] at A13 st13
  refine own_st st13 ?_
  have near_b13 : ar ≠ b13 := Nat.ne_of_lt (Nat.lt_of_lt_of_le V_ar.lt (Nat.le_of_eq g13.symm))
  have x13_V_ar := V_ar.ext E13
  have Z13 : n0 ≤ h13.size := Nat.le_trans Z0 E13.1
  have gnb13 : n0 ≤ b13 := Nat.le_trans Z0 (Nat.le_of_eq g13.symm)
  have gkb13 : h0.size ≤ b13 := Nat.le_trans K0.1 (Nat.le_of_eq g13.symm)
  have K13 : Keep h0 h13 [] := K0.ext E13
  have V13 : Arv Z h13 b13 k13 .byte (3 : Int32) [(.int (0 : Int32)), (.int (0 : Int32)), (.int (0 : Int32))] (.int (0 : Int32)) := (Arv.new A13 (by decide : ¬ ((3 : Int32) < (0 : Int32)))).pad (pad_rep [] (.int (0 : Int32)) 3)
  show own_Go _ _ _ _ (T13.setTop (mkF m 17 #[.val (.ref ar), .val (.int (3 : Int32)), .unset] [(.ref b13)]))
  refine own_st (fun _ k => XS.astoreN X13.here hx rfl (hb hby d2_17) rfl rfl (l' := #[.val (.ref ar), .val (.int (3 : Int32)), .val (.ref b13)]) rfl k) ?_
  show own_Go _ _ _ _ (T13.setTop (mkF m 18 #[.val (.ref ar), .val (.int (3 : Int32)), .val (.ref b13)] []))
  refine own_st (fun _ k => XS.aloadN X13.here hx rfl (hb hby d2_18) rfl rfl k) ?_
  show own_Go _ _ _ _ (T13.setTop (mkF m 19 #[.val (.ref ar), .val (.int (3 : Int32)), .val (.ref b13)] [(.ref ar)]))
  refine own_st (fun _ k => XS.iconst X13.here hx rfl (hb hby d2_19) k) ?_
  show own_Go _ _ _ _ (T13.setTop (mkF m 20 #[.val (.ref ar), .val (.int (3 : Int32)), .val (.ref b13)] [(.int (0 : Int32)), (.ref ar)]))
  refine own_st (fun _ k => XS.aloadN X13.here hx rfl (hb hby d2_20) rfl rfl k) ?_
  show own_Go _ _ _ _ (T13.setTop (mkF m 21 #[.val (.ref ar), .val (.int (3 : Int32)), .val (.ref b13)] [(.ref b13), (.int (0 : Int32)), (.ref ar)]))
  refine own_st (fun _ k => XS.iconst X13.here hx rfl (hb hby d2_21) k) ?_
  show own_Go _ _ _ _ (T13.setTop (mkF m 22 #[.val (.ref ar), .val (.int (3 : Int32)), .val (.ref b13)] [(.int (0 : Int32)), (.ref b13), (.int (0 : Int32)), (.ref ar)]))
  refine own_st (fun _ k => XS.aloadN X13.here hx rfl (hb hby d2_22) rfl rfl k) ?_
  show own_Go _ _ _ _ (T13.setTop (mkF m 23 #[.val (.ref ar), .val (.int (3 : Int32)), .val (.ref b13)] [(.ref ar), (.int (0 : Int32)), (.ref b13), (.int (0 : Int32)), (.ref ar)]))
  obtain ⟨cl14, Ar14, -, Sz14, Nn14, -, -⟩ := id x13_V_ar
  refine own_st (X13.arraylength hx (by rw [e13]; exact Ar14.1) (State.isArrayOf_alike hZ.alike Ar14.2.1) (g := (mkF m 23 #[.val (.ref ar), .val (.int (3 : Int32)), .val (.ref b13)] [(.ref ar), (.int (0 : Int32)), (.ref b13), (.int (0 : Int32)), (.ref ar)])) rfl rfl (hb hby d2_23)) ?_
  rw [len_of Sz14 Nn14]
  show own_Go _ _ _ _ (T13.setTop (mkF m 24 #[.val (.ref ar), .val (.int (3 : Int32)), .val (.ref b13)] [(.int (2 : Int32)), (.int (0 : Int32)), (.ref b13), (.int (0 : Int32)), (.ref ar)]))
  refine own_st (fun _ k => XS.iloadN X13.here hx rfl (hb hby d2_24) rfl k) ?_
  show own_Go _ _ _ _ (T13.setTop (mkF m 25 #[.val (.ref ar), .val (.int (3 : Int32)), .val (.ref b13)] [(.int (3 : Int32)), (.int (2 : Int32)), (.int (0 : Int32)), (.ref b13), (.int (0 : Int32)), (.ref ar)]))
  obtain ⟨_, _, ⟨T15, L15, k15, n15⟩, -, X15, ⟨Lc15, hQ15, l15, y15, z15⟩, st15⟩ := Jvm.LawKit.callS X13 hx (y := (⟨"java/lang/Math", "min", "(II)I"⟩ : MethodName)) hown (mvT hZ (hw _ (List.mem_of_getElem? (i := 9) rfl))) (mvT hZ (hw _ (List.mem_of_getElem? (i := 10) rfl))) (mvT hZ (hw _ (List.mem_of_getElem? (i := 11) rfl))) (mvT hZ (hw _ (List.mem_of_getElem? (i := 12) rfl))) (by decide) (backOf (W := 4) (rm3 l Z a0 hw [] (2 : Int32) (3 : Int32) h13 n0 Z13 ) hZ (hw _ (List.mem_of_getElem? (i := 12) rfl)) (hw _ (List.mem_of_getElem? (i := 11) rfl)) (by decide) (by decide)) (g := (mkF m 25 #[.val (.ref ar), .val (.int (3 : Int32)), .val (.ref b13)] [(.int (3 : Int32)), (.int (2 : Int32)), (.int (0 : Int32)), (.ref b13), (.int (0 : Int32)), (.ref ar)])) rfl (by rw [hml]; rfl) (argsL := [(.int (2 : Int32)), (.int (3 : Int32))]) (rest := [(.int (0 : Int32)), (.ref b13), (.int (0 : Int32)), (.ref ar)]) (lenOf own_pd0 rfl) rfl (by show 2 * 0 + _ ≤ _; exact Nat.le_of_eq rfl) (hb hby d2_25) (fun _ _ => ⟨rfl, e13, (by decide : 1 + 0 ≤ _), (by decide : 3 + 0 ≤ _)⟩)
  dsimp only [Pt.U, Pt.locs, Pt.cells, Pt.slots] at X15 l15 y15 z15 st15 hQ15
  subst l15 y15 z15
  obtain ⟨rfl, Nq15, eq15⟩ := hQ15
  have N15 := Fr.app N0 Nq15
  refine own_st st15 ?_
  rw [show (own_min (2 : Int32) (3 : Int32)) = (2 : Int32) from by decide]
  show own_Go _ _ _ _ (T15.setTop (mkF m 28 #[.val (.ref ar), .val (.int (3 : Int32)), .val (.ref b13)] [(.int (2 : Int32)), (.int (0 : Int32)), (.ref b13), (.int (0 : Int32)), (.ref ar)]))
  obtain ⟨T16, h16, L16, X16, e16, N16, Kc16, Vc16, st16⟩ := cpA X15 hx hZ hown (hw _ (List.mem_of_getElem? (i := 13) rfl)) (hw _ (List.mem_of_getElem? (i := 16) rfl)) (hw _ (List.mem_of_getElem? (i := 14) rfl)) (hw _ (List.mem_of_getElem? (i := 15) rfl)) eq15 x13_V_ar V13 (us := [(.int v0), (.int v1)]) (Or.inl ⟨rfl, rfl⟩) (by decide : ¬ ((0 : Int32) < 0)) (by decide : ¬ ((0 : Int32) < 0)) (by decide : ¬ ((2 : Int32) < 0)) (by decide) (by decide) rfl (Nat.le_of_ble_eq_true rfl) N15 gnb13 (g := (mkF m 28 #[.val (.ref ar), .val (.int (3 : Int32)), .val (.ref b13)] [(.int (2 : Int32)), (.int (0 : Int32)), (.ref b13), (.int (0 : Int32)), (.ref ar)])) rfl (by rw [hml]; rfl) rfl (hb hby d2_28) (by decide) (W := 0) (by show 2 * 0 + _ ≤ _; exact Nat.le_of_eq rfl) (by decide)
  refine own_st st16 ?_
  have V16 : Arv Z h16 b13 k13 .byte (3 : Int32) [(.int v0), (.int v1), (.int (0 : Int32))] (.int (0 : Int32)) := Vc16
  have z16_V_ar := x13_V_ar.keep Kc16 (ninS near_b13 nin0)
  have Z16 : n0 ≤ h16.size := Nat.le_trans Z13 Kc16.1
  have Kk16 : Keep h0 h16 [] := K13.trans Kc16 (allS (Or.inr gkb13) all0)
  show own_Go _ _ _ _ (T16.setTop (mkF m 31 #[.val (.ref ar), .val (.int (3 : Int32)), .val (.ref b13)] []))
  refine own_st (fun _ k => XS.aloadN X16.here hx rfl (hb hby d2_31) rfl rfl k) ?_
  show own_Go _ _ _ _ (T16.setTop (mkF m 32 #[.val (.ref ar), .val (.int (3 : Int32)), .val (.ref b13)] [(.ref b13)]))
  obtain ⟨fs, hr, hrun, hended, hW, hsame⟩ := X16.leave (v := some (.ref b13)) (fun h => by rw [Bd.returns] at h; cases h)
  refine own_out ((by
      jvm_step X16.here [X16.here.top, hx, (hb hby d2_32), X16.method', Bd.returns, Value.isRef, FieldType.isReference]
      first | (intro acts; rw [hr _ acts rfl rfl rfl]) | rw [hr _ _ rfl rfl rfl]
      exact Steps.refl _)) ⟨hrun, hended, _, _, rfl, ?_, ⟨_, rfl⟩, hW, hsame.mono (by decide) (by decide)⟩
  show Q2_2 Z ar kk v0 v1 h0 n0 _ T16.heap _
  rw [e16]
  exact ⟨b13, k13, rfl, N16, Kk16, gkb13, V16⟩
def Q2_3 (Z : State) (ar : Addr) (kk : ClassId) (v0 : Int32) (v1 : Int32) (v2 : Int32) (h0 : Heap) (n0 : Nat) (v : Option Value) (h : Heap) (L : List Loc) : Prop := ∃ (b : Addr) (k : ClassId), v = some (.ref b) ∧ Fr n0 L ∧ Keep h0 h [] ∧ h0.size ≤ b ∧ Arv Z h b k .byte (4 : Int32) [.int v0, .int v1, .int v2, .int (0 : Int32)] (.int (0 : Int32))
theorem ef_2_3 (m : MethodId) (x0 : Addr) (x1 : Int32) : entryFrame m #[(.ref x0), (.int x1)] 3 = mkF m 0 #[.val (.ref x0), .val (.int x1), .unset] [] := by first | (simp [entryFrame, mkF, argsToLocals, Value.category]; done) | rfl
set_option maxRecDepth 65536 in
set_option maxHeartbeats 40000000 in
theorem rm2_3 (l : Launch) (Z : State) (a0 : Array Value) (hw : ∀ d ∈ tables_1, d.before a0 Z = true) (ws : List Jvm.Cond) (ar : Addr) (kk : ClassId) (v0 : Int32) (v1 : Int32) (v2 : Int32) (h0 : Heap) (n0 : Nat) (Z0 : n0 ≤ h0.size) (V_ar : Arv Z h0 ar kk .byte (3 : Int32) [.int v0, .int v1, .int v2] (.int (0 : Int32))) :
    MetFree l (⟨"java/util/Arrays", "copyOf", "([BI)[B"⟩ : MethodName) (head1 (Jvm.Cond.code (⟨"java/util/Arrays", "copyOf", "([BI)[B"⟩ : MethodName) jdk_65_method_121_code 3 (some (.array .byte)) :: ws) ({ frames := 1, cells := 1, slots := 4, locals := 40 } : Room)) (fun a U => a = #[(.ref ar), (.int (4 : Int32))] ∧ Z.Warmed39 U.vm ∧ U.heap = h0) (fun _ _ _ _ _ => True) (fun _ U o U' => ∃ v L, o = .returned v ∧ Q2_3 Z ar kk v0 v1 v2 h0 n0 v U'.heap L ∧ FrameEnd U o U' L ({ frames := 1, cells := 1, slots := 4, locals := 40 } : Room).cells ({ frames := 1, cells := 1, slots := 4, locals := 40 } : Room).slots) := by
  refine MetFree.of_bodySF (plainFor_of_name own_pn0) hisR ?_
  intro p e s m args below meth c s₁ Bd hml0 hP hK
  obtain ⟨rfl, hZ, hh⟩ := hP
  have hx := Bd.exec
  have hby := Bd.bytes
  have hml : c.maxLocals = 3 := hml0
  have hown : s.vm.findClass "java/util/Arrays" = some m.cls := findClass_of_methodNamed Bd.named
  have hnm := (name_of_methodNamed Bd.named Bd.method).1
  have X0 : Stand p l e ({ frames := 1, cells := 1, slots := 4, locals := 40 } : Room) s m #[(.ref ar), (.int (4 : Int32))] below meth c s₁ [] 0 0 := Stand.of_body Bd
  have e0 : s₁.heap = h0 := by rw [← hh, Bd.state]; rfl
  have N0 := Fr.nil n0
  refine own_in ?_
  refine own_st (fun _ k => castTop (ef_2_3 m ar (4 : Int32)) k) ?_
  have K0 : Keep h0 h0 [] := Keep.refl h0 []
  show own_Go _ _ _ _ (s₁.setTop (mkF m 0 #[.val (.ref ar), .val (.int (4 : Int32)), .unset] []))
  refine own_st (fun _ k => XS.iloadN X0.here hx rfl (hb hby d2_0) rfl k) ?_
  show own_Go _ _ _ _ (s₁.setTop (mkF m 1 #[.val (.ref ar), .val (.int (4 : Int32)), .unset] [(.int (4 : Int32))]))
  refine own_st (fun _ k => XS.aloadN X0.here hx rfl (hb hby d2_1) rfl rfl k) ?_
  show own_Go _ _ _ _ (s₁.setTop (mkF m 2 #[.val (.ref ar), .val (.int (4 : Int32)), .unset] [(.ref ar), (.int (4 : Int32))]))
  obtain ⟨cl17, Ar17, -, Sz17, Nn17, -, -⟩ := id V_ar
  refine own_st (X0.arraylength hx (by rw [e0]; exact Ar17.1) (State.isArrayOf_alike hZ.alike Ar17.2.1) (g := (mkF m 2 #[.val (.ref ar), .val (.int (4 : Int32)), .unset] [(.ref ar), (.int (4 : Int32))])) rfl rfl (hb hby d2_2)) ?_
  rw [len_of Sz17 Nn17]
  show own_Go _ _ _ _ (s₁.setTop (mkF m 3 #[.val (.ref ar), .val (.int (4 : Int32)), .unset] [(.int (3 : Int32)), (.int (4 : Int32))]))
  refine own_st (fun _ k => XS.icmpYes X0.here hx rfl (pc0 := 3) (pc' := 14) rfl (hb hby d2_3) rfl (feq (by decide : ¬ ((4 : Int32) = (3 : Int32)))).2 (by decide) (by decide) k) ?_
  show own_Go _ _ _ _ (s₁.setTop (mkF m 14 #[.val (.ref ar), .val (.int (4 : Int32)), .unset] []))
  refine own_st (fun _ k => XS.iloadN X0.here hx rfl (hb hby d2_14) rfl k) ?_
  show own_Go _ _ _ _ (s₁.setTop (mkF m 15 #[.val (.ref ar), .val (.int (4 : Int32)), .unset] [(.int (4 : Int32))]))
  obtain ⟨T18, h18, k18, X18, e18, E18, A18, st18⟩ := newP X0 hx hZ (hw _ (List.mem_of_getElem? (i := 0) rfl)) e0 (g := (mkF m 15 #[.val (.ref ar), .val (.int (4 : Int32)), .unset] [(.int (4 : Int32))])) rfl (hb hby d2_15) rfl (by decide : ¬ ((4 : Int32) < (0 : Int32))) (cap := 4) (by decide : ((4 : Int32)).toNatClampNeg ≤ 4) (by decide) (by decide) (by decide)
  obtain ⟨b18, g18⟩ : ∃ z, z = h0.size := ⟨_, rfl⟩
  rw [← g18] at A18 st18
  refine own_st st18 ?_
  have near_b18 : ar ≠ b18 := Nat.ne_of_lt (Nat.lt_of_lt_of_le V_ar.lt (Nat.le_of_eq g18.symm))
  have x18_V_ar := V_ar.ext E18
  have Z18 : n0 ≤ h18.size := Nat.le_trans Z0 E18.1
  have gnb18 : n0 ≤ b18 := Nat.le_trans Z0 (Nat.le_of_eq g18.symm)
  have gkb18 : h0.size ≤ b18 := Nat.le_trans K0.1 (Nat.le_of_eq g18.symm)
  have K18 : Keep h0 h18 [] := K0.ext E18
  have V18 : Arv Z h18 b18 k18 .byte (4 : Int32) [(.int (0 : Int32)), (.int (0 : Int32)), (.int (0 : Int32)), (.int (0 : Int32))] (.int (0 : Int32)) := (Arv.new A18 (by decide : ¬ ((4 : Int32) < (0 : Int32)))).pad (pad_rep [] (.int (0 : Int32)) 4)
  show own_Go _ _ _ _ (T18.setTop (mkF m 17 #[.val (.ref ar), .val (.int (4 : Int32)), .unset] [(.ref b18)]))
  refine own_st (fun _ k => XS.astoreN X18.here hx rfl (hb hby d2_17) rfl rfl (l' := #[.val (.ref ar), .val (.int (4 : Int32)), .val (.ref b18)]) rfl k) ?_
  show own_Go _ _ _ _ (T18.setTop (mkF m 18 #[.val (.ref ar), .val (.int (4 : Int32)), .val (.ref b18)] []))
  refine own_st (fun _ k => XS.aloadN X18.here hx rfl (hb hby d2_18) rfl rfl k) ?_
  show own_Go _ _ _ _ (T18.setTop (mkF m 19 #[.val (.ref ar), .val (.int (4 : Int32)), .val (.ref b18)] [(.ref ar)]))
  refine own_st (fun _ k => XS.iconst X18.here hx rfl (hb hby d2_19) k) ?_
  show own_Go _ _ _ _ (T18.setTop (mkF m 20 #[.val (.ref ar), .val (.int (4 : Int32)), .val (.ref b18)] [(.int (0 : Int32)), (.ref ar)]))
  refine own_st (fun _ k => XS.aloadN X18.here hx rfl (hb hby d2_20) rfl rfl k) ?_
  show own_Go _ _ _ _ (T18.setTop (mkF m 21 #[.val (.ref ar), .val (.int (4 : Int32)), .val (.ref b18)] [(.ref b18), (.int (0 : Int32)), (.ref ar)]))
  refine own_st (fun _ k => XS.iconst X18.here hx rfl (hb hby d2_21) k) ?_
  show own_Go _ _ _ _ (T18.setTop (mkF m 22 #[.val (.ref ar), .val (.int (4 : Int32)), .val (.ref b18)] [(.int (0 : Int32)), (.ref b18), (.int (0 : Int32)), (.ref ar)]))
  refine own_st (fun _ k => XS.aloadN X18.here hx rfl (hb hby d2_22) rfl rfl k) ?_
  show own_Go _ _ _ _ (T18.setTop (mkF m 23 #[.val (.ref ar), .val (.int (4 : Int32)), .val (.ref b18)] [(.ref ar), (.int (0 : Int32)), (.ref b18), (.int (0 : Int32)), (.ref ar)]))
  obtain ⟨cl19, Ar19, -, Sz19, Nn19, -, -⟩ := id x18_V_ar
  refine own_st (X18.arraylength hx (by rw [e18]; exact Ar19.1) (State.isArrayOf_alike hZ.alike Ar19.2.1) (g := (mkF m 23 #[.val (.ref ar), .val (.int (4 : Int32)), .val (.ref b18)] [(.ref ar), (.int (0 : Int32)), (.ref b18), (.int (0 : Int32)), (.ref ar)])) rfl rfl (hb hby d2_23)) ?_
  rw [len_of Sz19 Nn19]
  show own_Go _ _ _ _ (T18.setTop (mkF m 24 #[.val (.ref ar), .val (.int (4 : Int32)), .val (.ref b18)] [(.int (3 : Int32)), (.int (0 : Int32)), (.ref b18), (.int (0 : Int32)), (.ref ar)]))
  refine own_st (fun _ k => XS.iloadN X18.here hx rfl (hb hby d2_24) rfl k) ?_
  show own_Go _ _ _ _ (T18.setTop (mkF m 25 #[.val (.ref ar), .val (.int (4 : Int32)), .val (.ref b18)] [(.int (4 : Int32)), (.int (3 : Int32)), (.int (0 : Int32)), (.ref b18), (.int (0 : Int32)), (.ref ar)]))
  obtain ⟨_, _, ⟨T20, L20, k20, n20⟩, -, X20, ⟨Lc20, hQ20, l20, y20, z20⟩, st20⟩ := Jvm.LawKit.callS X18 hx (y := (⟨"java/lang/Math", "min", "(II)I"⟩ : MethodName)) hown (mvT hZ (hw _ (List.mem_of_getElem? (i := 9) rfl))) (mvT hZ (hw _ (List.mem_of_getElem? (i := 10) rfl))) (mvT hZ (hw _ (List.mem_of_getElem? (i := 11) rfl))) (mvT hZ (hw _ (List.mem_of_getElem? (i := 12) rfl))) (by decide) (backOf (W := 4) (rm3 l Z a0 hw [] (3 : Int32) (4 : Int32) h18 n0 Z18 ) hZ (hw _ (List.mem_of_getElem? (i := 12) rfl)) (hw _ (List.mem_of_getElem? (i := 11) rfl)) (by decide) (by decide)) (g := (mkF m 25 #[.val (.ref ar), .val (.int (4 : Int32)), .val (.ref b18)] [(.int (4 : Int32)), (.int (3 : Int32)), (.int (0 : Int32)), (.ref b18), (.int (0 : Int32)), (.ref ar)])) rfl (by rw [hml]; rfl) (argsL := [(.int (3 : Int32)), (.int (4 : Int32))]) (rest := [(.int (0 : Int32)), (.ref b18), (.int (0 : Int32)), (.ref ar)]) (lenOf own_pd0 rfl) rfl (by show 2 * 0 + _ ≤ _; exact Nat.le_of_eq rfl) (hb hby d2_25) (fun _ _ => ⟨rfl, e18, (by decide : 1 + 0 ≤ _), (by decide : 4 + 0 ≤ _)⟩)
  dsimp only [Pt.U, Pt.locs, Pt.cells, Pt.slots] at X20 l20 y20 z20 st20 hQ20
  subst l20 y20 z20
  obtain ⟨rfl, Nq20, eq20⟩ := hQ20
  have N20 := Fr.app N0 Nq20
  refine own_st st20 ?_
  rw [show (own_min (3 : Int32) (4 : Int32)) = (3 : Int32) from by decide]
  show own_Go _ _ _ _ (T20.setTop (mkF m 28 #[.val (.ref ar), .val (.int (4 : Int32)), .val (.ref b18)] [(.int (3 : Int32)), (.int (0 : Int32)), (.ref b18), (.int (0 : Int32)), (.ref ar)]))
  obtain ⟨T21, h21, L21, X21, e21, N21, Kc21, Vc21, st21⟩ := cpA X20 hx hZ hown (hw _ (List.mem_of_getElem? (i := 13) rfl)) (hw _ (List.mem_of_getElem? (i := 16) rfl)) (hw _ (List.mem_of_getElem? (i := 14) rfl)) (hw _ (List.mem_of_getElem? (i := 15) rfl)) eq20 x18_V_ar V18 (us := [(.int v0), (.int v1), (.int v2)]) (Or.inl ⟨rfl, rfl⟩) (by decide : ¬ ((0 : Int32) < 0)) (by decide : ¬ ((0 : Int32) < 0)) (by decide : ¬ ((3 : Int32) < 0)) (by decide) (by decide) rfl (Nat.le_of_ble_eq_true rfl) N20 gnb18 (g := (mkF m 28 #[.val (.ref ar), .val (.int (4 : Int32)), .val (.ref b18)] [(.int (3 : Int32)), (.int (0 : Int32)), (.ref b18), (.int (0 : Int32)), (.ref ar)])) rfl (by rw [hml]; rfl) rfl (hb hby d2_28) (by decide) (W := 0) (by show 2 * 0 + _ ≤ _; exact Nat.le_of_eq rfl) (by decide)
  refine own_st st21 ?_
  have V21 : Arv Z h21 b18 k18 .byte (4 : Int32) [(.int v0), (.int v1), (.int v2), (.int (0 : Int32))] (.int (0 : Int32)) := Vc21
  have z21_V_ar := x18_V_ar.keep Kc21 (ninS near_b18 nin0)
  have Z21 : n0 ≤ h21.size := Nat.le_trans Z18 Kc21.1
  have Kk21 : Keep h0 h21 [] := K18.trans Kc21 (allS (Or.inr gkb18) all0)
  show own_Go _ _ _ _ (T21.setTop (mkF m 31 #[.val (.ref ar), .val (.int (4 : Int32)), .val (.ref b18)] []))
  refine own_st (fun _ k => XS.aloadN X21.here hx rfl (hb hby d2_31) rfl rfl k) ?_
  show own_Go _ _ _ _ (T21.setTop (mkF m 32 #[.val (.ref ar), .val (.int (4 : Int32)), .val (.ref b18)] [(.ref b18)]))
  obtain ⟨fs, hr, hrun, hended, hW, hsame⟩ := X21.leave (v := some (.ref b18)) (fun h => by rw [Bd.returns] at h; cases h)
  refine own_out ((by
      jvm_step X21.here [X21.here.top, hx, (hb hby d2_32), X21.method', Bd.returns, Value.isRef, FieldType.isReference]
      first | (intro acts; rw [hr _ acts rfl rfl rfl]) | rw [hr _ _ rfl rfl rfl]
      exact Steps.refl _)) ⟨hrun, hended, _, _, rfl, ?_, ⟨_, rfl⟩, hW, hsame.mono (by decide) (by decide)⟩
  show Q2_3 Z ar kk v0 v1 v2 h0 n0 _ T21.heap _
  rw [e21]
  exact ⟨b18, k18, rfl, N21, Kk21, gkb18, V21⟩
theorem d1_0 : decode prog_7_method_6_code 0 = .ok (.aload_n 0, 1) := by decide +kernel
theorem d1_1 : decode prog_7_method_6_code 1 = .ok (.aload_n 0, 1) := by decide +kernel
theorem d1_2 : decode prog_7_method_6_code 2 = .ok (.arraylength, 1) := by decide +kernel
theorem d1_3 : decode prog_7_method_6_code 3 = .ok (.iconst 1, 1) := by decide +kernel
theorem d1_4 : decode prog_7_method_6_code 4 = .ok (.iadd, 1) := by decide +kernel
theorem d1_5 : decode prog_7_method_6_code 5 = .ok (.invokestatic 46, 3) := by decide +kernel
theorem d1_8 : decode prog_7_method_6_code 8 = .ok (.astore_n 1, 1) := by decide +kernel
theorem d1_9 : decode prog_7_method_6_code 9 = .ok (.aload_n 1, 1) := by decide +kernel
theorem d1_10 : decode prog_7_method_6_code 10 = .ok (.aload_n 0, 1) := by decide +kernel
theorem d1_11 : decode prog_7_method_6_code 11 = .ok (.arraylength, 1) := by decide +kernel
theorem d1_12 : decode prog_7_method_6_code 12 = .ok (.bipush 48, 2) := by decide +kernel
theorem d1_14 : decode prog_7_method_6_code 14 = .ok (.bastore, 1) := by decide +kernel
theorem d1_15 : decode prog_7_method_6_code 15 = .ok (.aload_n 1, 1) := by decide +kernel
theorem d1_16 : decode prog_7_method_6_code 16 = .ok (.areturn, 1) := by decide +kernel
theorem own_pd2 : parseMethodDescriptor "([B)[B" = some ⟨[(.array .byte)], some (.array .byte)⟩ := by decide +kernel
theorem own_pn1 : plainName "com/example/outlay/outlay/GitPath" = true := by first | (simp [plainName, overriddenIn]; done) | decide +kernel
def Q1_0 (Z : State) (ar : Addr) (kk : ClassId)  (h0 : Heap) (n0 : Nat) (v : Option Value) (h : Heap) (L : List Loc) : Prop := ∃ (b : Addr) (k : ClassId), v = some (.ref b) ∧ Fr n0 L ∧ Keep h0 h [] ∧ h0.size ≤ b ∧ Arv Z h b k .byte (1 : Int32) [.int (48 : Int32)] (.int (0 : Int32))
theorem ef_1_0 (m : MethodId) (x0 : Addr) : entryFrame m #[(.ref x0)] 2 = mkF m 0 #[.val (.ref x0), .unset] [] := by first | (simp [entryFrame, mkF, argsToLocals, Value.category]; done) | rfl
set_option maxRecDepth 65536 in
set_option maxHeartbeats 40000000 in
theorem rm1_0 (l : Launch) (Z : State) (a0 : Array Value) (hw : ∀ d ∈ tables_1, d.before a0 Z = true) (ws : List Jvm.Cond) (ar : Addr) (kk : ClassId)  (h0 : Heap) (n0 : Nat) (Z0 : n0 ≤ h0.size) (V_ar : Arv Z h0 ar kk .byte (0 : Int32) [] (.int (0 : Int32))) :
    MetFree l (⟨"com/example/outlay/outlay/GitPath", "endBelow", "([B)[B"⟩ : MethodName) (head1 (Jvm.Cond.code (⟨"com/example/outlay/outlay/GitPath", "endBelow", "([B)[B"⟩ : MethodName) prog_7_method_6_code 2 (some (.array .byte)) :: ws) ({ frames := 2, cells := 1, slots := 4, locals := 60 } : Room)) (fun a U => a = #[(.ref ar)] ∧ Z.Warmed39 U.vm ∧ U.heap = h0) (fun _ _ _ _ _ => True) (fun _ U o U' => ∃ v L, o = .returned v ∧ Q1_0 Z ar kk h0 n0 v U'.heap L ∧ FrameEnd U o U' L ({ frames := 2, cells := 1, slots := 4, locals := 60 } : Room).cells ({ frames := 2, cells := 1, slots := 4, locals := 60 } : Room).slots) := by
  refine MetFree.of_bodySF (plainFor_of_name own_pn1) hisR ?_
  intro p e s m args below meth c s₁ Bd hml0 hP hK
  obtain ⟨rfl, hZ, hh⟩ := hP
  have hx := Bd.exec
  have hby := Bd.bytes
  have hml : c.maxLocals = 2 := hml0
  have hown : s.vm.findClass "com/example/outlay/outlay/GitPath" = some m.cls := findClass_of_methodNamed Bd.named
  have hnm := (name_of_methodNamed Bd.named Bd.method).1
  have X0 : Stand p l e ({ frames := 2, cells := 1, slots := 4, locals := 60 } : Room) s m #[(.ref ar)] below meth c s₁ [] 0 0 := Stand.of_body Bd
  have e0 : s₁.heap = h0 := by rw [← hh, Bd.state]; rfl
  have N0 := Fr.nil n0
  refine own_in ?_
  refine own_st (fun _ k => castTop (ef_1_0 m ar) k) ?_
  have K0 : Keep h0 h0 [] := Keep.refl h0 []
  show own_Go _ _ _ _ (s₁.setTop (mkF m 0 #[.val (.ref ar), .unset] []))
  refine own_st (fun _ k => XS.aloadN X0.here hx rfl (hb hby d1_0) rfl rfl k) ?_
  show own_Go _ _ _ _ (s₁.setTop (mkF m 1 #[.val (.ref ar), .unset] [(.ref ar)]))
  refine own_st (fun _ k => XS.aloadN X0.here hx rfl (hb hby d1_1) rfl rfl k) ?_
  show own_Go _ _ _ _ (s₁.setTop (mkF m 2 #[.val (.ref ar), .unset] [(.ref ar), (.ref ar)]))
  obtain ⟨cl22, Ar22, -, Sz22, Nn22, -, -⟩ := id V_ar
  refine own_st (X0.arraylength hx (by rw [e0]; exact Ar22.1) (State.isArrayOf_alike hZ.alike Ar22.2.1) (g := (mkF m 2 #[.val (.ref ar), .unset] [(.ref ar), (.ref ar)])) rfl rfl (hb hby d1_2)) ?_
  rw [len_of Sz22 Nn22]
  show own_Go _ _ _ _ (s₁.setTop (mkF m 3 #[.val (.ref ar), .unset] [(.int (0 : Int32)), (.ref ar)]))
  refine own_st (fun _ k => XS.iconst X0.here hx rfl (hb hby d1_3) k) ?_
  show own_Go _ _ _ _ (s₁.setTop (mkF m 4 #[.val (.ref ar), .unset] [(.int (1 : Int32)), (.int (0 : Int32)), (.ref ar)]))
  refine own_st (fun _ k => XS.iadd X0.here hx rfl (hb hby d1_4) rfl k) ?_
  show own_Go _ _ _ _ (s₁.setTop (mkF m 5 #[.val (.ref ar), .unset] [(.int (1 : Int32)), (.ref ar)]))
  obtain ⟨_, _, ⟨T23, L23, k23, n23⟩, -, X23, ⟨Lc23, hQ23, l23, y23, z23⟩, st23⟩ := Jvm.LawKit.callS X0 hx (y := (⟨"java/util/Arrays", "copyOf", "([BI)[B"⟩ : MethodName)) hown (mvT hZ (hw _ (List.mem_of_getElem? (i := 5) rfl))) (mvT hZ (hw _ (List.mem_of_getElem? (i := 6) rfl))) (mvT hZ (hw _ (List.mem_of_getElem? (i := 7) rfl))) (mvT hZ (hw _ (List.mem_of_getElem? (i := 8) rfl))) (by decide) (backOf (W := 0) (rm2_0 l Z a0 hw [] ar kk  h0 n0 Z0 V_ar) hZ (hw _ (List.mem_of_getElem? (i := 8) rfl)) (hw _ (List.mem_of_getElem? (i := 7) rfl)) (by decide) (by decide)) (g := (mkF m 5 #[.val (.ref ar), .unset] [(.int (1 : Int32)), (.ref ar)])) rfl (by rw [hml]; rfl) (argsL := [(.ref ar), (.int (1 : Int32))]) (rest := []) (lenOf own_pd1 rfl) rfl (by show 2 * 0 + _ ≤ _; exact Nat.le_of_eq rfl) (hb hby d1_5) (fun _ _ => ⟨rfl, e0, (by decide : 0 + 1 ≤ _), (by decide : 0 + 4 ≤ _)⟩)
  dsimp only [Pt.U, Pt.locs, Pt.cells, Pt.slots] at X23 l23 y23 z23 st23 hQ23
  subst l23 y23 z23
  obtain ⟨bq23, kq23, rfl, Nq23, Kq23, gq23, Vq23⟩ := hQ23
  have N23 := Fr.app N0 Nq23
  refine own_st st23 ?_
  have near_bq23 : ar ≠ bq23 := Nat.ne_of_lt (Nat.lt_of_lt_of_le V_ar.lt gq23)
  have gnbq23 : n0 ≤ bq23 := Nat.le_trans Z0 gq23
  have gkbq23 : h0.size ≤ bq23 := Nat.le_trans K0.1 gq23
  have z23_V_ar := V_ar.keep Kq23 nin0
  have Z23 : n0 ≤ T23.heap.size := Nat.le_trans Z0 Kq23.1
  have Kk23 : Keep h0 T23.heap [] := K0.trans Kq23 all0
  show own_Go _ _ _ _ (T23.setTop (mkF m 8 #[.val (.ref ar), .unset] [(.ref bq23)]))
  refine own_st (fun _ k => XS.astoreN X23.here hx rfl (hb hby d1_8) rfl rfl (l' := #[.val (.ref ar), .val (.ref bq23)]) rfl k) ?_
  show own_Go _ _ _ _ (T23.setTop (mkF m 9 #[.val (.ref ar), .val (.ref bq23)] []))
  refine own_st (fun _ k => XS.aloadN X23.here hx rfl (hb hby d1_9) rfl rfl k) ?_
  show own_Go _ _ _ _ (T23.setTop (mkF m 10 #[.val (.ref ar), .val (.ref bq23)] [(.ref bq23)]))
  refine own_st (fun _ k => XS.aloadN X23.here hx rfl (hb hby d1_10) rfl rfl k) ?_
  show own_Go _ _ _ _ (T23.setTop (mkF m 11 #[.val (.ref ar), .val (.ref bq23)] [(.ref ar), (.ref bq23)]))
  obtain ⟨cl24, Ar24, -, Sz24, Nn24, -, -⟩ := id z23_V_ar
  refine own_st (X23.arraylength hx Ar24.1 (State.isArrayOf_alike hZ.alike Ar24.2.1) (g := (mkF m 11 #[.val (.ref ar), .val (.ref bq23)] [(.ref ar), (.ref bq23)])) rfl rfl (hb hby d1_11)) ?_
  rw [len_of Sz24 Nn24]
  show own_Go _ _ _ _ (T23.setTop (mkF m 12 #[.val (.ref ar), .val (.ref bq23)] [(.int (0 : Int32)), (.ref bq23)]))
  refine own_st (fun _ k => XS.bipush X23.here hx rfl (hb hby d1_12) k) ?_
  show own_Go _ _ _ _ (T23.setTop (mkF m 14 #[.val (.ref ar), .val (.ref bq23)] [(.int (48 : Int32)), (.int (0 : Int32)), (.ref bq23)]))
  obtain ⟨cl25, Ar25, Kd25, Sz25, Nn25, Hs25, Gs25⟩ := id Vq23
  obtain ⟨T25, h25, X25, e25, W25, st25⟩ := stB X23 hx hZ rfl Ar25 (j := (0 : Int32)) (inb_of Sz25 ⟨(by decide : ¬ ((0 : Int32) < (0 : Int32))), (by decide : (0 : Int32) < (1 : Int32))⟩) (g := (mkF m 14 #[.val (.ref ar), .val (.ref bq23)] [(.int (48 : Int32)), (.int (0 : Int32)), (.ref bq23)])) rfl rfl (hb hby d1_14)
  refine own_st st25 ?_
  have V25 := Arv.set Ar25 Kd25 Sz25 Nn25 Hs25 Gs25 (fits_nar_byte _) W25 0 rfl (Nat.le_of_ble_eq_true rfl)
  have V25' : Arv Z h25 bq23 kq23 .byte (1 : Int32) [(.int (48 : Int32))] (.int (0 : Int32)) := V25
  have y25_V_ar := z23_V_ar.other W25 near_bq23
  have Z25 : n0 ≤ h25.size := Nat.le_trans Z23 (Nat.le_of_eq W25.size.symm)
  have N25 := Fr.snoc X25 N23 gnbq23
  have K25 : Keep h0 h25 [] := Kk23.wr W25 (Or.inr gkbq23)
  show own_Go _ _ _ _ (T25.setTop (mkF m 15 #[.val (.ref ar), .val (.ref bq23)] []))
  refine own_st (fun _ k => XS.aloadN X25.here hx rfl (hb hby d1_15) rfl rfl k) ?_
  show own_Go _ _ _ _ (T25.setTop (mkF m 16 #[.val (.ref ar), .val (.ref bq23)] [(.ref bq23)]))
  obtain ⟨fs, hr, hrun, hended, hW, hsame⟩ := X25.leave (v := some (.ref bq23)) (fun h => by rw [Bd.returns] at h; cases h)
  refine own_out ((by
      jvm_step X25.here [X25.here.top, hx, (hb hby d1_16), X25.method', Bd.returns, Value.isRef, FieldType.isReference]
      first | (intro acts; rw [hr _ acts rfl rfl rfl]) | rw [hr _ _ rfl rfl rfl]
      exact Steps.refl _)) ⟨hrun, hended, _, _, rfl, ?_, ⟨_, rfl⟩, hW, hsame.mono (by decide) (by decide)⟩
  show Q1_0 Z ar kk h0 n0 _ T25.heap _
  rw [e25]
  exact ⟨bq23, kq23, rfl, N25, K25, gkbq23, V25'⟩
def Q1_1 (Z : State) (ar : Addr) (kk : ClassId) (v0 : Int32) (h0 : Heap) (n0 : Nat) (v : Option Value) (h : Heap) (L : List Loc) : Prop := ∃ (b : Addr) (k : ClassId), v = some (.ref b) ∧ Fr n0 L ∧ Keep h0 h [] ∧ h0.size ≤ b ∧ Arv Z h b k .byte (2 : Int32) [.int v0, .int (48 : Int32)] (.int (0 : Int32))
theorem ef_1_1 (m : MethodId) (x0 : Addr) : entryFrame m #[(.ref x0)] 2 = mkF m 0 #[.val (.ref x0), .unset] [] := by first | (simp [entryFrame, mkF, argsToLocals, Value.category]; done) | rfl
set_option maxRecDepth 65536 in
set_option maxHeartbeats 40000000 in
theorem rm1_1 (l : Launch) (Z : State) (a0 : Array Value) (hw : ∀ d ∈ tables_1, d.before a0 Z = true) (ws : List Jvm.Cond) (ar : Addr) (kk : ClassId) (v0 : Int32) (h0 : Heap) (n0 : Nat) (Z0 : n0 ≤ h0.size) (V_ar : Arv Z h0 ar kk .byte (1 : Int32) [.int v0] (.int (0 : Int32))) :
    MetFree l (⟨"com/example/outlay/outlay/GitPath", "endBelow", "([B)[B"⟩ : MethodName) (head1 (Jvm.Cond.code (⟨"com/example/outlay/outlay/GitPath", "endBelow", "([B)[B"⟩ : MethodName) prog_7_method_6_code 2 (some (.array .byte)) :: ws) ({ frames := 2, cells := 1, slots := 4, locals := 60 } : Room)) (fun a U => a = #[(.ref ar)] ∧ Z.Warmed39 U.vm ∧ U.heap = h0) (fun _ _ _ _ _ => True) (fun _ U o U' => ∃ v L, o = .returned v ∧ Q1_1 Z ar kk v0 h0 n0 v U'.heap L ∧ FrameEnd U o U' L ({ frames := 2, cells := 1, slots := 4, locals := 60 } : Room).cells ({ frames := 2, cells := 1, slots := 4, locals := 60 } : Room).slots) := by
  refine MetFree.of_bodySF (plainFor_of_name own_pn1) hisR ?_
  intro p e s m args below meth c s₁ Bd hml0 hP hK
  obtain ⟨rfl, hZ, hh⟩ := hP
  have hx := Bd.exec
  have hby := Bd.bytes
  have hml : c.maxLocals = 2 := hml0
  have hown : s.vm.findClass "com/example/outlay/outlay/GitPath" = some m.cls := findClass_of_methodNamed Bd.named
  have hnm := (name_of_methodNamed Bd.named Bd.method).1
  have X0 : Stand p l e ({ frames := 2, cells := 1, slots := 4, locals := 60 } : Room) s m #[(.ref ar)] below meth c s₁ [] 0 0 := Stand.of_body Bd
  have e0 : s₁.heap = h0 := by rw [← hh, Bd.state]; rfl
  have N0 := Fr.nil n0
  refine own_in ?_
  refine own_st (fun _ k => castTop (ef_1_1 m ar) k) ?_
  have K0 : Keep h0 h0 [] := Keep.refl h0 []
  show own_Go _ _ _ _ (s₁.setTop (mkF m 0 #[.val (.ref ar), .unset] []))
  refine own_st (fun _ k => XS.aloadN X0.here hx rfl (hb hby d1_0) rfl rfl k) ?_
  show own_Go _ _ _ _ (s₁.setTop (mkF m 1 #[.val (.ref ar), .unset] [(.ref ar)]))
  refine own_st (fun _ k => XS.aloadN X0.here hx rfl (hb hby d1_1) rfl rfl k) ?_
  show own_Go _ _ _ _ (s₁.setTop (mkF m 2 #[.val (.ref ar), .unset] [(.ref ar), (.ref ar)]))
  obtain ⟨cl26, Ar26, -, Sz26, Nn26, -, -⟩ := id V_ar
  refine own_st (X0.arraylength hx (by rw [e0]; exact Ar26.1) (State.isArrayOf_alike hZ.alike Ar26.2.1) (g := (mkF m 2 #[.val (.ref ar), .unset] [(.ref ar), (.ref ar)])) rfl rfl (hb hby d1_2)) ?_
  rw [len_of Sz26 Nn26]
  show own_Go _ _ _ _ (s₁.setTop (mkF m 3 #[.val (.ref ar), .unset] [(.int (1 : Int32)), (.ref ar)]))
  refine own_st (fun _ k => XS.iconst X0.here hx rfl (hb hby d1_3) k) ?_
  show own_Go _ _ _ _ (s₁.setTop (mkF m 4 #[.val (.ref ar), .unset] [(.int (1 : Int32)), (.int (1 : Int32)), (.ref ar)]))
  refine own_st (fun _ k => XS.iadd X0.here hx rfl (hb hby d1_4) rfl k) ?_
  show own_Go _ _ _ _ (s₁.setTop (mkF m 5 #[.val (.ref ar), .unset] [(.int (2 : Int32)), (.ref ar)]))
  obtain ⟨_, _, ⟨T27, L27, k27, n27⟩, -, X27, ⟨Lc27, hQ27, l27, y27, z27⟩, st27⟩ := Jvm.LawKit.callS X0 hx (y := (⟨"java/util/Arrays", "copyOf", "([BI)[B"⟩ : MethodName)) hown (mvT hZ (hw _ (List.mem_of_getElem? (i := 5) rfl))) (mvT hZ (hw _ (List.mem_of_getElem? (i := 6) rfl))) (mvT hZ (hw _ (List.mem_of_getElem? (i := 7) rfl))) (mvT hZ (hw _ (List.mem_of_getElem? (i := 8) rfl))) (by decide) (backOf (W := 0) (rm2_1 l Z a0 hw [] ar kk v0 h0 n0 Z0 V_ar) hZ (hw _ (List.mem_of_getElem? (i := 8) rfl)) (hw _ (List.mem_of_getElem? (i := 7) rfl)) (by decide) (by decide)) (g := (mkF m 5 #[.val (.ref ar), .unset] [(.int (2 : Int32)), (.ref ar)])) rfl (by rw [hml]; rfl) (argsL := [(.ref ar), (.int (2 : Int32))]) (rest := []) (lenOf own_pd1 rfl) rfl (by show 2 * 0 + _ ≤ _; exact Nat.le_of_eq rfl) (hb hby d1_5) (fun _ _ => ⟨rfl, e0, (by decide : 0 + 1 ≤ _), (by decide : 0 + 4 ≤ _)⟩)
  dsimp only [Pt.U, Pt.locs, Pt.cells, Pt.slots] at X27 l27 y27 z27 st27 hQ27
  subst l27 y27 z27
  obtain ⟨bq27, kq27, rfl, Nq27, Kq27, gq27, Vq27⟩ := hQ27
  have N27 := Fr.app N0 Nq27
  refine own_st st27 ?_
  have near_bq27 : ar ≠ bq27 := Nat.ne_of_lt (Nat.lt_of_lt_of_le V_ar.lt gq27)
  have gnbq27 : n0 ≤ bq27 := Nat.le_trans Z0 gq27
  have gkbq27 : h0.size ≤ bq27 := Nat.le_trans K0.1 gq27
  have z27_V_ar := V_ar.keep Kq27 nin0
  have Z27 : n0 ≤ T27.heap.size := Nat.le_trans Z0 Kq27.1
  have Kk27 : Keep h0 T27.heap [] := K0.trans Kq27 all0
  show own_Go _ _ _ _ (T27.setTop (mkF m 8 #[.val (.ref ar), .unset] [(.ref bq27)]))
  refine own_st (fun _ k => XS.astoreN X27.here hx rfl (hb hby d1_8) rfl rfl (l' := #[.val (.ref ar), .val (.ref bq27)]) rfl k) ?_
  show own_Go _ _ _ _ (T27.setTop (mkF m 9 #[.val (.ref ar), .val (.ref bq27)] []))
  refine own_st (fun _ k => XS.aloadN X27.here hx rfl (hb hby d1_9) rfl rfl k) ?_
  show own_Go _ _ _ _ (T27.setTop (mkF m 10 #[.val (.ref ar), .val (.ref bq27)] [(.ref bq27)]))
  refine own_st (fun _ k => XS.aloadN X27.here hx rfl (hb hby d1_10) rfl rfl k) ?_
  show own_Go _ _ _ _ (T27.setTop (mkF m 11 #[.val (.ref ar), .val (.ref bq27)] [(.ref ar), (.ref bq27)]))
  obtain ⟨cl28, Ar28, -, Sz28, Nn28, -, -⟩ := id z27_V_ar
  refine own_st (X27.arraylength hx Ar28.1 (State.isArrayOf_alike hZ.alike Ar28.2.1) (g := (mkF m 11 #[.val (.ref ar), .val (.ref bq27)] [(.ref ar), (.ref bq27)])) rfl rfl (hb hby d1_11)) ?_
  rw [len_of Sz28 Nn28]
  show own_Go _ _ _ _ (T27.setTop (mkF m 12 #[.val (.ref ar), .val (.ref bq27)] [(.int (1 : Int32)), (.ref bq27)]))
  refine own_st (fun _ k => XS.bipush X27.here hx rfl (hb hby d1_12) k) ?_
  show own_Go _ _ _ _ (T27.setTop (mkF m 14 #[.val (.ref ar), .val (.ref bq27)] [(.int (48 : Int32)), (.int (1 : Int32)), (.ref bq27)]))
  obtain ⟨cl29, Ar29, Kd29, Sz29, Nn29, Hs29, Gs29⟩ := id Vq27
  obtain ⟨T29, h29, X29, e29, W29, st29⟩ := stB X27 hx hZ rfl Ar29 (j := (1 : Int32)) (inb_of Sz29 ⟨(by decide : ¬ ((1 : Int32) < (0 : Int32))), (by decide : (1 : Int32) < (2 : Int32))⟩) (g := (mkF m 14 #[.val (.ref ar), .val (.ref bq27)] [(.int (48 : Int32)), (.int (1 : Int32)), (.ref bq27)])) rfl rfl (hb hby d1_14)
  refine own_st st29 ?_
  have V29 := Arv.set Ar29 Kd29 Sz29 Nn29 Hs29 Gs29 (fits_nar_byte _) W29 1 rfl (Nat.le_of_ble_eq_true rfl)
  have V29' : Arv Z h29 bq27 kq27 .byte (2 : Int32) [(.int v0), (.int (48 : Int32))] (.int (0 : Int32)) := V29
  have y29_V_ar := z27_V_ar.other W29 near_bq27
  have Z29 : n0 ≤ h29.size := Nat.le_trans Z27 (Nat.le_of_eq W29.size.symm)
  have N29 := Fr.snoc X29 N27 gnbq27
  have K29 : Keep h0 h29 [] := Kk27.wr W29 (Or.inr gkbq27)
  show own_Go _ _ _ _ (T29.setTop (mkF m 15 #[.val (.ref ar), .val (.ref bq27)] []))
  refine own_st (fun _ k => XS.aloadN X29.here hx rfl (hb hby d1_15) rfl rfl k) ?_
  show own_Go _ _ _ _ (T29.setTop (mkF m 16 #[.val (.ref ar), .val (.ref bq27)] [(.ref bq27)]))
  obtain ⟨fs, hr, hrun, hended, hW, hsame⟩ := X29.leave (v := some (.ref bq27)) (fun h => by rw [Bd.returns] at h; cases h)
  refine own_out ((by
      jvm_step X29.here [X29.here.top, hx, (hb hby d1_16), X29.method', Bd.returns, Value.isRef, FieldType.isReference]
      first | (intro acts; rw [hr _ acts rfl rfl rfl]) | rw [hr _ _ rfl rfl rfl]
      exact Steps.refl _)) ⟨hrun, hended, _, _, rfl, ?_, ⟨_, rfl⟩, hW, hsame.mono (by decide) (by decide)⟩
  show Q1_1 Z ar kk v0 h0 n0 _ T29.heap _
  rw [e29]
  exact ⟨bq27, kq27, rfl, N29, K29, gkbq27, V29'⟩
def Q1_2 (Z : State) (ar : Addr) (kk : ClassId) (v0 : Int32) (v1 : Int32) (h0 : Heap) (n0 : Nat) (v : Option Value) (h : Heap) (L : List Loc) : Prop := ∃ (b : Addr) (k : ClassId), v = some (.ref b) ∧ Fr n0 L ∧ Keep h0 h [] ∧ h0.size ≤ b ∧ Arv Z h b k .byte (3 : Int32) [.int v0, .int v1, .int (48 : Int32)] (.int (0 : Int32))
theorem ef_1_2 (m : MethodId) (x0 : Addr) : entryFrame m #[(.ref x0)] 2 = mkF m 0 #[.val (.ref x0), .unset] [] := by first | (simp [entryFrame, mkF, argsToLocals, Value.category]; done) | rfl
set_option maxRecDepth 65536 in
set_option maxHeartbeats 40000000 in
theorem rm1_2 (l : Launch) (Z : State) (a0 : Array Value) (hw : ∀ d ∈ tables_1, d.before a0 Z = true) (ws : List Jvm.Cond) (ar : Addr) (kk : ClassId) (v0 : Int32) (v1 : Int32) (h0 : Heap) (n0 : Nat) (Z0 : n0 ≤ h0.size) (V_ar : Arv Z h0 ar kk .byte (2 : Int32) [.int v0, .int v1] (.int (0 : Int32))) :
    MetFree l (⟨"com/example/outlay/outlay/GitPath", "endBelow", "([B)[B"⟩ : MethodName) (head1 (Jvm.Cond.code (⟨"com/example/outlay/outlay/GitPath", "endBelow", "([B)[B"⟩ : MethodName) prog_7_method_6_code 2 (some (.array .byte)) :: ws) ({ frames := 2, cells := 1, slots := 4, locals := 60 } : Room)) (fun a U => a = #[(.ref ar)] ∧ Z.Warmed39 U.vm ∧ U.heap = h0) (fun _ _ _ _ _ => True) (fun _ U o U' => ∃ v L, o = .returned v ∧ Q1_2 Z ar kk v0 v1 h0 n0 v U'.heap L ∧ FrameEnd U o U' L ({ frames := 2, cells := 1, slots := 4, locals := 60 } : Room).cells ({ frames := 2, cells := 1, slots := 4, locals := 60 } : Room).slots) := by
  refine MetFree.of_bodySF (plainFor_of_name own_pn1) hisR ?_
  intro p e s m args below meth c s₁ Bd hml0 hP hK
  obtain ⟨rfl, hZ, hh⟩ := hP
  have hx := Bd.exec
  have hby := Bd.bytes
  have hml : c.maxLocals = 2 := hml0
  have hown : s.vm.findClass "com/example/outlay/outlay/GitPath" = some m.cls := findClass_of_methodNamed Bd.named
  have hnm := (name_of_methodNamed Bd.named Bd.method).1
  have X0 : Stand p l e ({ frames := 2, cells := 1, slots := 4, locals := 60 } : Room) s m #[(.ref ar)] below meth c s₁ [] 0 0 := Stand.of_body Bd
  have e0 : s₁.heap = h0 := by rw [← hh, Bd.state]; rfl
  have N0 := Fr.nil n0
  refine own_in ?_
  refine own_st (fun _ k => castTop (ef_1_2 m ar) k) ?_
  have K0 : Keep h0 h0 [] := Keep.refl h0 []
  show own_Go _ _ _ _ (s₁.setTop (mkF m 0 #[.val (.ref ar), .unset] []))
  refine own_st (fun _ k => XS.aloadN X0.here hx rfl (hb hby d1_0) rfl rfl k) ?_
  show own_Go _ _ _ _ (s₁.setTop (mkF m 1 #[.val (.ref ar), .unset] [(.ref ar)]))
  refine own_st (fun _ k => XS.aloadN X0.here hx rfl (hb hby d1_1) rfl rfl k) ?_
  show own_Go _ _ _ _ (s₁.setTop (mkF m 2 #[.val (.ref ar), .unset] [(.ref ar), (.ref ar)]))
  obtain ⟨cl30, Ar30, -, Sz30, Nn30, -, -⟩ := id V_ar
  refine own_st (X0.arraylength hx (by rw [e0]; exact Ar30.1) (State.isArrayOf_alike hZ.alike Ar30.2.1) (g := (mkF m 2 #[.val (.ref ar), .unset] [(.ref ar), (.ref ar)])) rfl rfl (hb hby d1_2)) ?_
  rw [len_of Sz30 Nn30]
  show own_Go _ _ _ _ (s₁.setTop (mkF m 3 #[.val (.ref ar), .unset] [(.int (2 : Int32)), (.ref ar)]))
  refine own_st (fun _ k => XS.iconst X0.here hx rfl (hb hby d1_3) k) ?_
  show own_Go _ _ _ _ (s₁.setTop (mkF m 4 #[.val (.ref ar), .unset] [(.int (1 : Int32)), (.int (2 : Int32)), (.ref ar)]))
  refine own_st (fun _ k => XS.iadd X0.here hx rfl (hb hby d1_4) rfl k) ?_
  show own_Go _ _ _ _ (s₁.setTop (mkF m 5 #[.val (.ref ar), .unset] [(.int (3 : Int32)), (.ref ar)]))
  obtain ⟨_, _, ⟨T31, L31, k31, n31⟩, -, X31, ⟨Lc31, hQ31, l31, y31, z31⟩, st31⟩ := Jvm.LawKit.callS X0 hx (y := (⟨"java/util/Arrays", "copyOf", "([BI)[B"⟩ : MethodName)) hown (mvT hZ (hw _ (List.mem_of_getElem? (i := 5) rfl))) (mvT hZ (hw _ (List.mem_of_getElem? (i := 6) rfl))) (mvT hZ (hw _ (List.mem_of_getElem? (i := 7) rfl))) (mvT hZ (hw _ (List.mem_of_getElem? (i := 8) rfl))) (by decide) (backOf (W := 0) (rm2_2 l Z a0 hw [] ar kk v0 v1 h0 n0 Z0 V_ar) hZ (hw _ (List.mem_of_getElem? (i := 8) rfl)) (hw _ (List.mem_of_getElem? (i := 7) rfl)) (by decide) (by decide)) (g := (mkF m 5 #[.val (.ref ar), .unset] [(.int (3 : Int32)), (.ref ar)])) rfl (by rw [hml]; rfl) (argsL := [(.ref ar), (.int (3 : Int32))]) (rest := []) (lenOf own_pd1 rfl) rfl (by show 2 * 0 + _ ≤ _; exact Nat.le_of_eq rfl) (hb hby d1_5) (fun _ _ => ⟨rfl, e0, (by decide : 0 + 1 ≤ _), (by decide : 0 + 4 ≤ _)⟩)
  dsimp only [Pt.U, Pt.locs, Pt.cells, Pt.slots] at X31 l31 y31 z31 st31 hQ31
  subst l31 y31 z31
  obtain ⟨bq31, kq31, rfl, Nq31, Kq31, gq31, Vq31⟩ := hQ31
  have N31 := Fr.app N0 Nq31
  refine own_st st31 ?_
  have near_bq31 : ar ≠ bq31 := Nat.ne_of_lt (Nat.lt_of_lt_of_le V_ar.lt gq31)
  have gnbq31 : n0 ≤ bq31 := Nat.le_trans Z0 gq31
  have gkbq31 : h0.size ≤ bq31 := Nat.le_trans K0.1 gq31
  have z31_V_ar := V_ar.keep Kq31 nin0
  have Z31 : n0 ≤ T31.heap.size := Nat.le_trans Z0 Kq31.1
  have Kk31 : Keep h0 T31.heap [] := K0.trans Kq31 all0
  show own_Go _ _ _ _ (T31.setTop (mkF m 8 #[.val (.ref ar), .unset] [(.ref bq31)]))
  refine own_st (fun _ k => XS.astoreN X31.here hx rfl (hb hby d1_8) rfl rfl (l' := #[.val (.ref ar), .val (.ref bq31)]) rfl k) ?_
  show own_Go _ _ _ _ (T31.setTop (mkF m 9 #[.val (.ref ar), .val (.ref bq31)] []))
  refine own_st (fun _ k => XS.aloadN X31.here hx rfl (hb hby d1_9) rfl rfl k) ?_
  show own_Go _ _ _ _ (T31.setTop (mkF m 10 #[.val (.ref ar), .val (.ref bq31)] [(.ref bq31)]))
  refine own_st (fun _ k => XS.aloadN X31.here hx rfl (hb hby d1_10) rfl rfl k) ?_
  show own_Go _ _ _ _ (T31.setTop (mkF m 11 #[.val (.ref ar), .val (.ref bq31)] [(.ref ar), (.ref bq31)]))
  obtain ⟨cl32, Ar32, -, Sz32, Nn32, -, -⟩ := id z31_V_ar
  refine own_st (X31.arraylength hx Ar32.1 (State.isArrayOf_alike hZ.alike Ar32.2.1) (g := (mkF m 11 #[.val (.ref ar), .val (.ref bq31)] [(.ref ar), (.ref bq31)])) rfl rfl (hb hby d1_11)) ?_
  rw [len_of Sz32 Nn32]
  show own_Go _ _ _ _ (T31.setTop (mkF m 12 #[.val (.ref ar), .val (.ref bq31)] [(.int (2 : Int32)), (.ref bq31)]))
  refine own_st (fun _ k => XS.bipush X31.here hx rfl (hb hby d1_12) k) ?_
  show own_Go _ _ _ _ (T31.setTop (mkF m 14 #[.val (.ref ar), .val (.ref bq31)] [(.int (48 : Int32)), (.int (2 : Int32)), (.ref bq31)]))
  obtain ⟨cl33, Ar33, Kd33, Sz33, Nn33, Hs33, Gs33⟩ := id Vq31
  obtain ⟨T33, h33, X33, e33, W33, st33⟩ := stB X31 hx hZ rfl Ar33 (j := (2 : Int32)) (inb_of Sz33 ⟨(by decide : ¬ ((2 : Int32) < (0 : Int32))), (by decide : (2 : Int32) < (3 : Int32))⟩) (g := (mkF m 14 #[.val (.ref ar), .val (.ref bq31)] [(.int (48 : Int32)), (.int (2 : Int32)), (.ref bq31)])) rfl rfl (hb hby d1_14)
  refine own_st st33 ?_
  have V33 := Arv.set Ar33 Kd33 Sz33 Nn33 Hs33 Gs33 (fits_nar_byte _) W33 2 rfl (Nat.le_of_ble_eq_true rfl)
  have V33' : Arv Z h33 bq31 kq31 .byte (3 : Int32) [(.int v0), (.int v1), (.int (48 : Int32))] (.int (0 : Int32)) := V33
  have y33_V_ar := z31_V_ar.other W33 near_bq31
  have Z33 : n0 ≤ h33.size := Nat.le_trans Z31 (Nat.le_of_eq W33.size.symm)
  have N33 := Fr.snoc X33 N31 gnbq31
  have K33 : Keep h0 h33 [] := Kk31.wr W33 (Or.inr gkbq31)
  show own_Go _ _ _ _ (T33.setTop (mkF m 15 #[.val (.ref ar), .val (.ref bq31)] []))
  refine own_st (fun _ k => XS.aloadN X33.here hx rfl (hb hby d1_15) rfl rfl k) ?_
  show own_Go _ _ _ _ (T33.setTop (mkF m 16 #[.val (.ref ar), .val (.ref bq31)] [(.ref bq31)]))
  obtain ⟨fs, hr, hrun, hended, hW, hsame⟩ := X33.leave (v := some (.ref bq31)) (fun h => by rw [Bd.returns] at h; cases h)
  refine own_out ((by
      jvm_step X33.here [X33.here.top, hx, (hb hby d1_16), X33.method', Bd.returns, Value.isRef, FieldType.isReference]
      first | (intro acts; rw [hr _ acts rfl rfl rfl]) | rw [hr _ _ rfl rfl rfl]
      exact Steps.refl _)) ⟨hrun, hended, _, _, rfl, ?_, ⟨_, rfl⟩, hW, hsame.mono (by decide) (by decide)⟩
  show Q1_2 Z ar kk v0 v1 h0 n0 _ T33.heap _
  rw [e33]
  exact ⟨bq31, kq31, rfl, N33, K33, gkbq31, V33'⟩
def Q1_3 (Z : State) (ar : Addr) (kk : ClassId) (v0 : Int32) (v1 : Int32) (v2 : Int32) (h0 : Heap) (n0 : Nat) (v : Option Value) (h : Heap) (L : List Loc) : Prop := ∃ (b : Addr) (k : ClassId), v = some (.ref b) ∧ Fr n0 L ∧ Keep h0 h [] ∧ h0.size ≤ b ∧ Arv Z h b k .byte (4 : Int32) [.int v0, .int v1, .int v2, .int (48 : Int32)] (.int (0 : Int32))
theorem ef_1_3 (m : MethodId) (x0 : Addr) : entryFrame m #[(.ref x0)] 2 = mkF m 0 #[.val (.ref x0), .unset] [] := by first | (simp [entryFrame, mkF, argsToLocals, Value.category]; done) | rfl
set_option maxRecDepth 65536 in
set_option maxHeartbeats 40000000 in
theorem rm1_3 (l : Launch) (Z : State) (a0 : Array Value) (hw : ∀ d ∈ tables_1, d.before a0 Z = true) (ws : List Jvm.Cond) (ar : Addr) (kk : ClassId) (v0 : Int32) (v1 : Int32) (v2 : Int32) (h0 : Heap) (n0 : Nat) (Z0 : n0 ≤ h0.size) (V_ar : Arv Z h0 ar kk .byte (3 : Int32) [.int v0, .int v1, .int v2] (.int (0 : Int32))) :
    MetFree l (⟨"com/example/outlay/outlay/GitPath", "endBelow", "([B)[B"⟩ : MethodName) (head1 (Jvm.Cond.code (⟨"com/example/outlay/outlay/GitPath", "endBelow", "([B)[B"⟩ : MethodName) prog_7_method_6_code 2 (some (.array .byte)) :: ws) ({ frames := 2, cells := 1, slots := 4, locals := 60 } : Room)) (fun a U => a = #[(.ref ar)] ∧ Z.Warmed39 U.vm ∧ U.heap = h0) (fun _ _ _ _ _ => True) (fun _ U o U' => ∃ v L, o = .returned v ∧ Q1_3 Z ar kk v0 v1 v2 h0 n0 v U'.heap L ∧ FrameEnd U o U' L ({ frames := 2, cells := 1, slots := 4, locals := 60 } : Room).cells ({ frames := 2, cells := 1, slots := 4, locals := 60 } : Room).slots) := by
  refine MetFree.of_bodySF (plainFor_of_name own_pn1) hisR ?_
  intro p e s m args below meth c s₁ Bd hml0 hP hK
  obtain ⟨rfl, hZ, hh⟩ := hP
  have hx := Bd.exec
  have hby := Bd.bytes
  have hml : c.maxLocals = 2 := hml0
  have hown : s.vm.findClass "com/example/outlay/outlay/GitPath" = some m.cls := findClass_of_methodNamed Bd.named
  have hnm := (name_of_methodNamed Bd.named Bd.method).1
  have X0 : Stand p l e ({ frames := 2, cells := 1, slots := 4, locals := 60 } : Room) s m #[(.ref ar)] below meth c s₁ [] 0 0 := Stand.of_body Bd
  have e0 : s₁.heap = h0 := by rw [← hh, Bd.state]; rfl
  have N0 := Fr.nil n0
  refine own_in ?_
  refine own_st (fun _ k => castTop (ef_1_3 m ar) k) ?_
  have K0 : Keep h0 h0 [] := Keep.refl h0 []
  show own_Go _ _ _ _ (s₁.setTop (mkF m 0 #[.val (.ref ar), .unset] []))
  refine own_st (fun _ k => XS.aloadN X0.here hx rfl (hb hby d1_0) rfl rfl k) ?_
  show own_Go _ _ _ _ (s₁.setTop (mkF m 1 #[.val (.ref ar), .unset] [(.ref ar)]))
  refine own_st (fun _ k => XS.aloadN X0.here hx rfl (hb hby d1_1) rfl rfl k) ?_
  show own_Go _ _ _ _ (s₁.setTop (mkF m 2 #[.val (.ref ar), .unset] [(.ref ar), (.ref ar)]))
  obtain ⟨cl34, Ar34, -, Sz34, Nn34, -, -⟩ := id V_ar
  refine own_st (X0.arraylength hx (by rw [e0]; exact Ar34.1) (State.isArrayOf_alike hZ.alike Ar34.2.1) (g := (mkF m 2 #[.val (.ref ar), .unset] [(.ref ar), (.ref ar)])) rfl rfl (hb hby d1_2)) ?_
  rw [len_of Sz34 Nn34]
  show own_Go _ _ _ _ (s₁.setTop (mkF m 3 #[.val (.ref ar), .unset] [(.int (3 : Int32)), (.ref ar)]))
  refine own_st (fun _ k => XS.iconst X0.here hx rfl (hb hby d1_3) k) ?_
  show own_Go _ _ _ _ (s₁.setTop (mkF m 4 #[.val (.ref ar), .unset] [(.int (1 : Int32)), (.int (3 : Int32)), (.ref ar)]))
  refine own_st (fun _ k => XS.iadd X0.here hx rfl (hb hby d1_4) rfl k) ?_
  show own_Go _ _ _ _ (s₁.setTop (mkF m 5 #[.val (.ref ar), .unset] [(.int (4 : Int32)), (.ref ar)]))
  obtain ⟨_, _, ⟨T35, L35, k35, n35⟩, -, X35, ⟨Lc35, hQ35, l35, y35, z35⟩, st35⟩ := Jvm.LawKit.callS X0 hx (y := (⟨"java/util/Arrays", "copyOf", "([BI)[B"⟩ : MethodName)) hown (mvT hZ (hw _ (List.mem_of_getElem? (i := 5) rfl))) (mvT hZ (hw _ (List.mem_of_getElem? (i := 6) rfl))) (mvT hZ (hw _ (List.mem_of_getElem? (i := 7) rfl))) (mvT hZ (hw _ (List.mem_of_getElem? (i := 8) rfl))) (by decide) (backOf (W := 0) (rm2_3 l Z a0 hw [] ar kk v0 v1 v2 h0 n0 Z0 V_ar) hZ (hw _ (List.mem_of_getElem? (i := 8) rfl)) (hw _ (List.mem_of_getElem? (i := 7) rfl)) (by decide) (by decide)) (g := (mkF m 5 #[.val (.ref ar), .unset] [(.int (4 : Int32)), (.ref ar)])) rfl (by rw [hml]; rfl) (argsL := [(.ref ar), (.int (4 : Int32))]) (rest := []) (lenOf own_pd1 rfl) rfl (by show 2 * 0 + _ ≤ _; exact Nat.le_of_eq rfl) (hb hby d1_5) (fun _ _ => ⟨rfl, e0, (by decide : 0 + 1 ≤ _), (by decide : 0 + 4 ≤ _)⟩)
  dsimp only [Pt.U, Pt.locs, Pt.cells, Pt.slots] at X35 l35 y35 z35 st35 hQ35
  subst l35 y35 z35
  obtain ⟨bq35, kq35, rfl, Nq35, Kq35, gq35, Vq35⟩ := hQ35
  have N35 := Fr.app N0 Nq35
  refine own_st st35 ?_
  have near_bq35 : ar ≠ bq35 := Nat.ne_of_lt (Nat.lt_of_lt_of_le V_ar.lt gq35)
  have gnbq35 : n0 ≤ bq35 := Nat.le_trans Z0 gq35
  have gkbq35 : h0.size ≤ bq35 := Nat.le_trans K0.1 gq35
  have z35_V_ar := V_ar.keep Kq35 nin0
  have Z35 : n0 ≤ T35.heap.size := Nat.le_trans Z0 Kq35.1
  have Kk35 : Keep h0 T35.heap [] := K0.trans Kq35 all0
  show own_Go _ _ _ _ (T35.setTop (mkF m 8 #[.val (.ref ar), .unset] [(.ref bq35)]))
  refine own_st (fun _ k => XS.astoreN X35.here hx rfl (hb hby d1_8) rfl rfl (l' := #[.val (.ref ar), .val (.ref bq35)]) rfl k) ?_
  show own_Go _ _ _ _ (T35.setTop (mkF m 9 #[.val (.ref ar), .val (.ref bq35)] []))
  refine own_st (fun _ k => XS.aloadN X35.here hx rfl (hb hby d1_9) rfl rfl k) ?_
  show own_Go _ _ _ _ (T35.setTop (mkF m 10 #[.val (.ref ar), .val (.ref bq35)] [(.ref bq35)]))
  refine own_st (fun _ k => XS.aloadN X35.here hx rfl (hb hby d1_10) rfl rfl k) ?_
  show own_Go _ _ _ _ (T35.setTop (mkF m 11 #[.val (.ref ar), .val (.ref bq35)] [(.ref ar), (.ref bq35)]))
  obtain ⟨cl36, Ar36, -, Sz36, Nn36, -, -⟩ := id z35_V_ar
  refine own_st (X35.arraylength hx Ar36.1 (State.isArrayOf_alike hZ.alike Ar36.2.1) (g := (mkF m 11 #[.val (.ref ar), .val (.ref bq35)] [(.ref ar), (.ref bq35)])) rfl rfl (hb hby d1_11)) ?_
  rw [len_of Sz36 Nn36]
  show own_Go _ _ _ _ (T35.setTop (mkF m 12 #[.val (.ref ar), .val (.ref bq35)] [(.int (3 : Int32)), (.ref bq35)]))
  refine own_st (fun _ k => XS.bipush X35.here hx rfl (hb hby d1_12) k) ?_
  show own_Go _ _ _ _ (T35.setTop (mkF m 14 #[.val (.ref ar), .val (.ref bq35)] [(.int (48 : Int32)), (.int (3 : Int32)), (.ref bq35)]))
  obtain ⟨cl37, Ar37, Kd37, Sz37, Nn37, Hs37, Gs37⟩ := id Vq35
  obtain ⟨T37, h37, X37, e37, W37, st37⟩ := stB X35 hx hZ rfl Ar37 (j := (3 : Int32)) (inb_of Sz37 ⟨(by decide : ¬ ((3 : Int32) < (0 : Int32))), (by decide : (3 : Int32) < (4 : Int32))⟩) (g := (mkF m 14 #[.val (.ref ar), .val (.ref bq35)] [(.int (48 : Int32)), (.int (3 : Int32)), (.ref bq35)])) rfl rfl (hb hby d1_14)
  refine own_st st37 ?_
  have V37 := Arv.set Ar37 Kd37 Sz37 Nn37 Hs37 Gs37 (fits_nar_byte _) W37 3 rfl (Nat.le_of_ble_eq_true rfl)
  have V37' : Arv Z h37 bq35 kq35 .byte (4 : Int32) [(.int v0), (.int v1), (.int v2), (.int (48 : Int32))] (.int (0 : Int32)) := V37
  have y37_V_ar := z35_V_ar.other W37 near_bq35
  have Z37 : n0 ≤ h37.size := Nat.le_trans Z35 (Nat.le_of_eq W37.size.symm)
  have N37 := Fr.snoc X37 N35 gnbq35
  have K37 : Keep h0 h37 [] := Kk35.wr W37 (Or.inr gkbq35)
  show own_Go _ _ _ _ (T37.setTop (mkF m 15 #[.val (.ref ar), .val (.ref bq35)] []))
  refine own_st (fun _ k => XS.aloadN X37.here hx rfl (hb hby d1_15) rfl rfl k) ?_
  show own_Go _ _ _ _ (T37.setTop (mkF m 16 #[.val (.ref ar), .val (.ref bq35)] [(.ref bq35)]))
  obtain ⟨fs, hr, hrun, hended, hW, hsame⟩ := X37.leave (v := some (.ref bq35)) (fun h => by rw [Bd.returns] at h; cases h)
  refine own_out ((by
      jvm_step X37.here [X37.here.top, hx, (hb hby d1_16), X37.method', Bd.returns, Value.isRef, FieldType.isReference]
      first | (intro acts; rw [hr _ acts rfl rfl rfl]) | rw [hr _ _ rfl rfl rfl]
      exact Steps.refl _)) ⟨hrun, hended, _, _, rfl, ?_, ⟨_, rfl⟩, hW, hsame.mono (by decide) (by decide)⟩
  show Q1_3 Z ar kk v0 v1 v2 h0 n0 _ T37.heap _
  rw [e37]
  exact ⟨bq35, kq35, rfl, N37, K37, gkbq35, V37'⟩
theorem own_pd3 : parseMethodDescriptor "(IIII)Z" = some ⟨[.int, .int, .int, .int], some .boolean⟩ := by decide +kernel
theorem own_pn2 : plainName "com/example/outlay/outlay/GitPathEndBelowPinLaw" = true := by first | (simp [plainName, overriddenIn]; done) | decide +kernel
def Q0 (Z : State) (u0 : Int32) (u1 : Int32) (u2 : Int32) (u3 : Int32) (h0 : Heap) (n0 : Nat) (v : Option Value) (h : Heap) (L : List Loc) : Prop := v = some (.int 1) ∧ Fr n0 L
theorem ef_0 (m : MethodId) (x0 : Int32) (x1 : Int32) (x2 : Int32) (x3 : Int32) : entryFrame m #[(.int x0), (.int x1), (.int x2), (.int x3)] maxLocals = mkF m 0 #[.val (.int x0), .val (.int x1), .val (.int x2), .val (.int x3), .unset, .unset, .unset, .unset, .unset, .unset] [] := by first | (simp [entryFrame, mkF, argsToLocals, Value.category, maxLocals]; done) | rfl
set_option maxRecDepth 65536 in
set_option maxHeartbeats 40000000 in
theorem rm0 (l : Launch) (Z : State) (a0 : Array Value) (hw : ∀ d ∈ tables_1, d.before a0 Z = true) (ws : List Jvm.Cond) (u0 : Int32) (u1 : Int32) (u2 : Int32) (u3 : Int32) (h0 : Heap) (n0 : Nat) (Z0 : n0 ≤ h0.size)  :
    MetFree l x (head1 (Jvm.Cond.code x code maxLocals ret :: ws) room_1) (fun a U => a = #[(.int u0), (.int u1), (.int u2), (.int u3)] ∧ Z.Warmed39 U.vm ∧ U.heap = h0) (fun _ _ _ _ _ => True) (fun _ U o U' => ∃ v L, o = .returned v ∧ Q0 Z u0 u1 u2 u3 h0 n0 v U'.heap L ∧ FrameEnd U o U' L 16 128) := by
  refine MetFree.of_bodySF (plainFor_of_name own_pn2) hisR ?_
  intro p e s m args below meth c s₁ Bd hml0 hP hK
  obtain ⟨rfl, hZ, hh⟩ := hP
  have hx := Bd.exec
  have hby := Bd.bytes
  have hml : c.maxLocals = 10 := hml0
  have hown : s.vm.findClass "com/example/outlay/outlay/GitPathEndBelowPinLaw" = some m.cls := findClass_of_methodNamed Bd.named
  have hnm := (name_of_methodNamed Bd.named Bd.method).1
  have X0 : Stand p l e room_1 s m #[(.int u0), (.int u1), (.int u2), (.int u3)] below meth c s₁ [] 0 0 := Stand.of_body Bd
  have e0 : s₁.heap = h0 := by rw [← hh, Bd.state]; rfl
  have N0 := Fr.nil n0
  refine own_in ?_
  refine own_st (fun _ k => castTop (ef_0 m u0 u1 u2 u3) k) ?_
  have K0 : Keep h0 h0 [] := Keep.refl h0 []
  show own_Go _ _ _ _ (s₁.setTop (mkF m 0 #[.val (.int u0), .val (.int u1), .val (.int u2), .val (.int u3), .unset, .unset, .unset, .unset, .unset, .unset] []))
  refine own_st (fun _ k => XS.iloadN X0.here hx rfl (hb hby at_0) rfl k) ?_
  show own_Go _ _ _ _ (s₁.setTop (mkF m 1 #[.val (.int u0), .val (.int u1), .val (.int u2), .val (.int u3), .unset, .unset, .unset, .unset, .unset, .unset] [(.int u0)]))
  refine own_st (fun _ k => XS.iconst X0.here hx rfl (hb hby at_1) k) ?_
  show own_Go _ _ _ _ (s₁.setTop (mkF m 2 #[.val (.int u0), .val (.int u1), .val (.int u2), .val (.int u3), .unset, .unset, .unset, .unset, .unset, .unset] [(.int (3 : Int32)), (.int u0)]))
  refine own_st (fun _ k => XS.iand X0.here hx rfl (hb hby at_2) rfl k) ?_
  show own_Go _ _ _ _ (s₁.setTop (mkF m 3 #[.val (.int u0), .val (.int u1), .val (.int u2), .val (.int u3), .unset, .unset, .unset, .unset, .unset, .unset] [(.int (u0 &&& (3 : Int32)))]))
  refine own_st (fun _ k => XS.istore X0.here hx rfl (hb hby at_3) rfl (l' := #[.val (.int u0), .val (.int u1), .val (.int u2), .val (.int u3), .val (.int (u0 &&& (3 : Int32))), .unset, .unset, .unset, .unset, .unset]) rfl k) ?_
  show own_Go _ _ _ _ (s₁.setTop (mkF m 5 #[.val (.int u0), .val (.int u1), .val (.int u2), .val (.int u3), .val (.int (u0 &&& (3 : Int32))), .unset, .unset, .unset, .unset, .unset] []))
  rcases own_m4 u0 with hs38 | hs38 | hs38 | hs38
  · skip
    rw [hs38]
    show own_Go _ _ _ _ (s₁.setTop (mkF m 5 #[.val (.int u0), .val (.int u1), .val (.int u2), .val (.int u3), .val (.int (0 : Int32)), .unset, .unset, .unset, .unset, .unset] []))
    refine own_st (fun _ k => XS.iloadN X0.here hx rfl (hb hby at_5) rfl k) ?_
    show own_Go _ _ _ _ (s₁.setTop (mkF m 6 #[.val (.int u0), .val (.int u1), .val (.int u2), .val (.int u3), .val (.int (0 : Int32)), .unset, .unset, .unset, .unset, .unset] [(.int u1)]))
    refine own_st (fun _ k => XS.i2b X0.here hx rfl (hb hby at_6) rfl k) ?_
    show own_Go _ _ _ _ (s₁.setTop (mkF m 7 #[.val (.int u0), .val (.int u1), .val (.int u2), .val (.int u3), .val (.int (0 : Int32)), .unset, .unset, .unset, .unset, .unset] [(.int (u1.toInt8.toInt32))]))
    refine own_st (fun _ k => XS.istore X0.here hx rfl (hb hby at_7) rfl (l' := #[.val (.int u0), .val (.int u1), .val (.int u2), .val (.int u3), .val (.int (0 : Int32)), .val (.int (u1.toInt8.toInt32)), .unset, .unset, .unset, .unset]) rfl k) ?_
    show own_Go _ _ _ _ (s₁.setTop (mkF m 9 #[.val (.int u0), .val (.int u1), .val (.int u2), .val (.int u3), .val (.int (0 : Int32)), .val (.int (u1.toInt8.toInt32)), .unset, .unset, .unset, .unset] []))
    refine own_st (fun _ k => XS.iloadN X0.here hx rfl (hb hby at_9) rfl k) ?_
    show own_Go _ _ _ _ (s₁.setTop (mkF m 10 #[.val (.int u0), .val (.int u1), .val (.int u2), .val (.int u3), .val (.int (0 : Int32)), .val (.int (u1.toInt8.toInt32)), .unset, .unset, .unset, .unset] [(.int u2)]))
    refine own_st (fun _ k => XS.i2b X0.here hx rfl (hb hby at_10) rfl k) ?_
    show own_Go _ _ _ _ (s₁.setTop (mkF m 11 #[.val (.int u0), .val (.int u1), .val (.int u2), .val (.int u3), .val (.int (0 : Int32)), .val (.int (u1.toInt8.toInt32)), .unset, .unset, .unset, .unset] [(.int (u2.toInt8.toInt32))]))
    refine own_st (fun _ k => XS.istore X0.here hx rfl (hb hby at_11) rfl (l' := #[.val (.int u0), .val (.int u1), .val (.int u2), .val (.int u3), .val (.int (0 : Int32)), .val (.int (u1.toInt8.toInt32)), .val (.int (u2.toInt8.toInt32)), .unset, .unset, .unset]) rfl k) ?_
    show own_Go _ _ _ _ (s₁.setTop (mkF m 13 #[.val (.int u0), .val (.int u1), .val (.int u2), .val (.int u3), .val (.int (0 : Int32)), .val (.int (u1.toInt8.toInt32)), .val (.int (u2.toInt8.toInt32)), .unset, .unset, .unset] []))
    refine own_st (fun _ k => XS.iloadN X0.here hx rfl (hb hby at_13) rfl k) ?_
    show own_Go _ _ _ _ (s₁.setTop (mkF m 14 #[.val (.int u0), .val (.int u1), .val (.int u2), .val (.int u3), .val (.int (0 : Int32)), .val (.int (u1.toInt8.toInt32)), .val (.int (u2.toInt8.toInt32)), .unset, .unset, .unset] [(.int u3)]))
    refine own_st (fun _ k => XS.i2b X0.here hx rfl (hb hby at_14) rfl k) ?_
    show own_Go _ _ _ _ (s₁.setTop (mkF m 15 #[.val (.int u0), .val (.int u1), .val (.int u2), .val (.int u3), .val (.int (0 : Int32)), .val (.int (u1.toInt8.toInt32)), .val (.int (u2.toInt8.toInt32)), .unset, .unset, .unset] [(.int (u3.toInt8.toInt32))]))
    refine own_st (fun _ k => XS.istore X0.here hx rfl (hb hby at_15) rfl (l' := #[.val (.int u0), .val (.int u1), .val (.int u2), .val (.int u3), .val (.int (0 : Int32)), .val (.int (u1.toInt8.toInt32)), .val (.int (u2.toInt8.toInt32)), .val (.int (u3.toInt8.toInt32)), .unset, .unset]) rfl k) ?_
    show own_Go _ _ _ _ (s₁.setTop (mkF m 17 #[.val (.int u0), .val (.int u1), .val (.int u2), .val (.int u3), .val (.int (0 : Int32)), .val (.int (u1.toInt8.toInt32)), .val (.int (u2.toInt8.toInt32)), .val (.int (u3.toInt8.toInt32)), .unset, .unset] []))
    refine own_st (fun _ k => XS.iload X0.here hx rfl (hb hby at_17) rfl k) ?_
    show own_Go _ _ _ _ (s₁.setTop (mkF m 19 #[.val (.int u0), .val (.int u1), .val (.int u2), .val (.int u3), .val (.int (0 : Int32)), .val (.int (u1.toInt8.toInt32)), .val (.int (u2.toInt8.toInt32)), .val (.int (u3.toInt8.toInt32)), .unset, .unset] [(.int (0 : Int32))]))
    refine own_st (fun _ k => XS.ifNo X0.here hx rfl (hb hby at_19) rfl ((if0 _ _).trans (teq (by decide : ((0 : Int32) = (0 : Int32)))).2) k) ?_
    show own_Go _ _ _ _ (s₁.setTop (mkF m 22 #[.val (.int u0), .val (.int u1), .val (.int u2), .val (.int u3), .val (.int (0 : Int32)), .val (.int (u1.toInt8.toInt32)), .val (.int (u2.toInt8.toInt32)), .val (.int (u3.toInt8.toInt32)), .unset, .unset] []))
    refine own_st (fun _ k => XS.iconst X0.here hx rfl (hb hby at_22) k) ?_
    show own_Go _ _ _ _ (s₁.setTop (mkF m 23 #[.val (.int u0), .val (.int u1), .val (.int u2), .val (.int u3), .val (.int (0 : Int32)), .val (.int (u1.toInt8.toInt32)), .val (.int (u2.toInt8.toInt32)), .val (.int (u3.toInt8.toInt32)), .unset, .unset] [(.int (0 : Int32))]))
    obtain ⟨T39, h39, k39, X39, e39, E39, A39, st39⟩ := newP X0 hx hZ (hw _ (List.mem_of_getElem? (i := 0) rfl)) e0 (g := (mkF m 23 #[.val (.int u0), .val (.int u1), .val (.int u2), .val (.int u3), .val (.int (0 : Int32)), .val (.int (u1.toInt8.toInt32)), .val (.int (u2.toInt8.toInt32)), .val (.int (u3.toInt8.toInt32)), .unset, .unset] [(.int (0 : Int32))])) rfl (hb hby at_23) rfl (by decide : ¬ ((0 : Int32) < (0 : Int32))) (cap := 0) (by decide : ((0 : Int32)).toNatClampNeg ≤ 0) (by decide) (by decide) (by decide)
    obtain ⟨b39, g39⟩ : ∃ z, z = h0.size := ⟨_, rfl⟩
    rw [← g39] at A39 st39
    refine own_st st39 ?_
    have Z39 : n0 ≤ h39.size := Nat.le_trans Z0 E39.1
    have gnb39 : n0 ≤ b39 := Nat.le_trans Z0 (Nat.le_of_eq g39.symm)
    have gkb39 : h0.size ≤ b39 := Nat.le_trans K0.1 (Nat.le_of_eq g39.symm)
    have K39 : Keep h0 h39 [] := K0.ext E39
    have V39 : Arv Z h39 b39 k39 .byte (0 : Int32) [] (.int (0 : Int32)) := Arv.new A39 (by decide : ¬ ((0 : Int32) < (0 : Int32)))
    show own_Go _ _ _ _ (T39.setTop (mkF m 25 #[.val (.int u0), .val (.int u1), .val (.int u2), .val (.int u3), .val (.int (0 : Int32)), .val (.int (u1.toInt8.toInt32)), .val (.int (u2.toInt8.toInt32)), .val (.int (u3.toInt8.toInt32)), .unset, .unset] [(.ref b39)]))
    refine own_st (fun _ k => XS.astore X39.here hx rfl (hb hby at_25) rfl rfl (l' := #[.val (.int u0), .val (.int u1), .val (.int u2), .val (.int u3), .val (.int (0 : Int32)), .val (.int (u1.toInt8.toInt32)), .val (.int (u2.toInt8.toInt32)), .val (.int (u3.toInt8.toInt32)), .val (.ref b39), .unset]) rfl k) ?_
    show own_Go _ _ _ _ (T39.setTop (mkF m 27 #[.val (.int u0), .val (.int u1), .val (.int u2), .val (.int u3), .val (.int (0 : Int32)), .val (.int (u1.toInt8.toInt32)), .val (.int (u2.toInt8.toInt32)), .val (.int (u3.toInt8.toInt32)), .val (.ref b39), .unset] []))
    refine own_st (fun _ k => XS.goto X39.here hx rfl (pc0 := 27) (pc' := 93) rfl (hb hby at_27) (by decide) (by decide) k) ?_
    show own_Go _ _ _ _ (T39.setTop (mkF m 93 #[.val (.int u0), .val (.int u1), .val (.int u2), .val (.int u3), .val (.int (0 : Int32)), .val (.int (u1.toInt8.toInt32)), .val (.int (u2.toInt8.toInt32)), .val (.int (u3.toInt8.toInt32)), .val (.ref b39), .unset] []))
    refine own_st (fun _ k => XS.aload X39.here hx rfl (hb hby at_93) rfl rfl k) ?_
    show own_Go _ _ _ _ (T39.setTop (mkF m 95 #[.val (.int u0), .val (.int u1), .val (.int u2), .val (.int u3), .val (.int (0 : Int32)), .val (.int (u1.toInt8.toInt32)), .val (.int (u2.toInt8.toInt32)), .val (.int (u3.toInt8.toInt32)), .val (.ref b39), .unset] [(.ref b39)]))
    obtain ⟨_, _, ⟨T40, L40, k40, n40⟩, -, X40, ⟨Lc40, hQ40, l40, y40, z40⟩, st40⟩ := Jvm.LawKit.callS X39 hx (y := (⟨"com/example/outlay/outlay/GitPath", "endBelow", "([B)[B"⟩ : MethodName)) hown (mvT hZ (hw _ (List.mem_of_getElem? (i := 1) rfl))) (mvT hZ (hw _ (List.mem_of_getElem? (i := 2) rfl))) (mvT hZ (hw _ (List.mem_of_getElem? (i := 3) rfl))) (mvT hZ (hw _ (List.mem_of_getElem? (i := 4) rfl))) (by decide) (backOf (W := 0) (rm1_0 l Z a0 hw [] b39 k39  h39 n0 Z39 V39) hZ (hw _ (List.mem_of_getElem? (i := 4) rfl)) (hw _ (List.mem_of_getElem? (i := 3) rfl)) (by decide) (by decide)) (g := (mkF m 95 #[.val (.int u0), .val (.int u1), .val (.int u2), .val (.int u3), .val (.int (0 : Int32)), .val (.int (u1.toInt8.toInt32)), .val (.int (u2.toInt8.toInt32)), .val (.int (u3.toInt8.toInt32)), .val (.ref b39), .unset] [(.ref b39)])) rfl (by rw [hml]; rfl) (argsL := [(.ref b39)]) (rest := []) (lenOf own_pd2 rfl) rfl (by show 2 * 0 + _ ≤ _; exact Nat.le_of_eq rfl) (hb hby at_95) (fun _ _ => ⟨rfl, e39, (by decide : 1 + 1 ≤ _), (by decide : 0 + 4 ≤ _)⟩)
    dsimp only [Pt.U, Pt.locs, Pt.cells, Pt.slots] at X40 l40 y40 z40 st40 hQ40
    subst l40 y40 z40
    obtain ⟨bq40, kq40, rfl, Nq40, Kq40, gq40, Vq40⟩ := hQ40
    have N40 := Fr.app N0 Nq40
    refine own_st st40 ?_
    have neb39_bq40 : b39 ≠ bq40 := Nat.ne_of_lt (Nat.lt_of_lt_of_le V39.lt gq40)
    have gnbq40 : n0 ≤ bq40 := Nat.le_trans Z39 gq40
    have gkbq40 : h0.size ≤ bq40 := Nat.le_trans K39.1 gq40
    have z40_V_b39 := V39.keep Kq40 nin0
    have Z40 : n0 ≤ T40.heap.size := Nat.le_trans Z39 Kq40.1
    have Kk40 : Keep h0 T40.heap [] := K39.trans Kq40 all0
    show own_Go _ _ _ _ (T40.setTop (mkF m 98 #[.val (.int u0), .val (.int u1), .val (.int u2), .val (.int u3), .val (.int (0 : Int32)), .val (.int (u1.toInt8.toInt32)), .val (.int (u2.toInt8.toInt32)), .val (.int (u3.toInt8.toInt32)), .val (.ref b39), .unset] [(.ref bq40)]))
    refine own_st (fun _ k => XS.astore X40.here hx rfl (hb hby at_98) rfl rfl (l' := #[.val (.int u0), .val (.int u1), .val (.int u2), .val (.int u3), .val (.int (0 : Int32)), .val (.int (u1.toInt8.toInt32)), .val (.int (u2.toInt8.toInt32)), .val (.int (u3.toInt8.toInt32)), .val (.ref b39), .val (.ref bq40)]) rfl k) ?_
    show own_Go _ _ _ _ (T40.setTop (mkF m 100 #[.val (.int u0), .val (.int u1), .val (.int u2), .val (.int u3), .val (.int (0 : Int32)), .val (.int (u1.toInt8.toInt32)), .val (.int (u2.toInt8.toInt32)), .val (.int (u3.toInt8.toInt32)), .val (.ref b39), .val (.ref bq40)] []))
    refine own_st (fun _ k => XS.aload X40.here hx rfl (hb hby at_100) rfl rfl k) ?_
    show own_Go _ _ _ _ (T40.setTop (mkF m 102 #[.val (.int u0), .val (.int u1), .val (.int u2), .val (.int u3), .val (.int (0 : Int32)), .val (.int (u1.toInt8.toInt32)), .val (.int (u2.toInt8.toInt32)), .val (.int (u3.toInt8.toInt32)), .val (.ref b39), .val (.ref bq40)] [(.ref bq40)]))
    refine own_st (fun _ k => XS.ifnullNo X40.here hx rfl (hb hby at_102) rfl k) ?_
    show own_Go _ _ _ _ (T40.setTop (mkF m 105 #[.val (.int u0), .val (.int u1), .val (.int u2), .val (.int u3), .val (.int (0 : Int32)), .val (.int (u1.toInt8.toInt32)), .val (.int (u2.toInt8.toInt32)), .val (.int (u3.toInt8.toInt32)), .val (.ref b39), .val (.ref bq40)] []))
    refine own_st (fun _ k => XS.aload X40.here hx rfl (hb hby at_105) rfl rfl k) ?_
    show own_Go _ _ _ _ (T40.setTop (mkF m 107 #[.val (.int u0), .val (.int u1), .val (.int u2), .val (.int u3), .val (.int (0 : Int32)), .val (.int (u1.toInt8.toInt32)), .val (.int (u2.toInt8.toInt32)), .val (.int (u3.toInt8.toInt32)), .val (.ref b39), .val (.ref bq40)] [(.ref bq40)]))
    refine own_st (fun _ k => XS.aload X40.here hx rfl (hb hby at_107) rfl rfl k) ?_
    show own_Go _ _ _ _ (T40.setTop (mkF m 109 #[.val (.int u0), .val (.int u1), .val (.int u2), .val (.int u3), .val (.int (0 : Int32)), .val (.int (u1.toInt8.toInt32)), .val (.int (u2.toInt8.toInt32)), .val (.int (u3.toInt8.toInt32)), .val (.ref b39), .val (.ref bq40)] [(.ref b39), (.ref bq40)]))
    refine own_st (fun _ k => Jvm.RoadKit.acmp (g := (mkF m 109 #[.val (.int u0), .val (.int u1), .val (.int u2), .val (.int u3), .val (.int (0 : Int32)), .val (.int (u1.toInt8.toInt32)), .val (.int (u2.toInt8.toInt32)), .val (.int (u3.toInt8.toInt32)), .val (.ref b39), .val (.ref bq40)] [(.ref b39), (.ref bq40)])) X40 hx rfl rfl rfl (pc0 := 109) (pc' := 112) (same := false) rfl (hb hby at_109) rfl (decide_eq_false fun q => (Ne.symm neb39_bq40) (Value.ref.inj q)) (by decide) (by decide) k) ?_
    show own_Go _ _ _ _ (T40.setTop (mkF m 112 #[.val (.int u0), .val (.int u1), .val (.int u2), .val (.int u3), .val (.int (0 : Int32)), .val (.int (u1.toInt8.toInt32)), .val (.int (u2.toInt8.toInt32)), .val (.int (u3.toInt8.toInt32)), .val (.ref b39), .val (.ref bq40)] []))
    refine own_st (fun _ k => XS.aload X40.here hx rfl (hb hby at_112) rfl rfl k) ?_
    show own_Go _ _ _ _ (T40.setTop (mkF m 114 #[.val (.int u0), .val (.int u1), .val (.int u2), .val (.int u3), .val (.int (0 : Int32)), .val (.int (u1.toInt8.toInt32)), .val (.int (u2.toInt8.toInt32)), .val (.int (u3.toInt8.toInt32)), .val (.ref b39), .val (.ref bq40)] [(.ref b39)]))
    obtain ⟨cl41, Ar41, -, Sz41, Nn41, -, -⟩ := id z40_V_b39
    refine own_st (X40.arraylength hx Ar41.1 (State.isArrayOf_alike hZ.alike Ar41.2.1) (g := (mkF m 114 #[.val (.int u0), .val (.int u1), .val (.int u2), .val (.int u3), .val (.int (0 : Int32)), .val (.int (u1.toInt8.toInt32)), .val (.int (u2.toInt8.toInt32)), .val (.int (u3.toInt8.toInt32)), .val (.ref b39), .val (.ref bq40)] [(.ref b39)])) rfl rfl (hb hby at_114)) ?_
    rw [len_of Sz41 Nn41]
    show own_Go _ _ _ _ (T40.setTop (mkF m 115 #[.val (.int u0), .val (.int u1), .val (.int u2), .val (.int u3), .val (.int (0 : Int32)), .val (.int (u1.toInt8.toInt32)), .val (.int (u2.toInt8.toInt32)), .val (.int (u3.toInt8.toInt32)), .val (.ref b39), .val (.ref bq40)] [(.int (0 : Int32))]))
    refine own_st (fun _ k => XS.iload X40.here hx rfl (hb hby at_115) rfl k) ?_
    show own_Go _ _ _ _ (T40.setTop (mkF m 117 #[.val (.int u0), .val (.int u1), .val (.int u2), .val (.int u3), .val (.int (0 : Int32)), .val (.int (u1.toInt8.toInt32)), .val (.int (u2.toInt8.toInt32)), .val (.int (u3.toInt8.toInt32)), .val (.ref b39), .val (.ref bq40)] [(.int (0 : Int32)), (.int (0 : Int32))]))
    refine own_st (fun _ k => XS.icmpNo X40.here hx rfl (hb hby at_117) rfl (teq (by decide : ((0 : Int32) = (0 : Int32)))).2 k) ?_
    show own_Go _ _ _ _ (T40.setTop (mkF m 120 #[.val (.int u0), .val (.int u1), .val (.int u2), .val (.int u3), .val (.int (0 : Int32)), .val (.int (u1.toInt8.toInt32)), .val (.int (u2.toInt8.toInt32)), .val (.int (u3.toInt8.toInt32)), .val (.ref b39), .val (.ref bq40)] []))
    refine own_st (fun _ k => XS.aload X40.here hx rfl (hb hby at_120) rfl rfl k) ?_
    show own_Go _ _ _ _ (T40.setTop (mkF m 122 #[.val (.int u0), .val (.int u1), .val (.int u2), .val (.int u3), .val (.int (0 : Int32)), .val (.int (u1.toInt8.toInt32)), .val (.int (u2.toInt8.toInt32)), .val (.int (u3.toInt8.toInt32)), .val (.ref b39), .val (.ref bq40)] [(.ref bq40)]))
    obtain ⟨cl42, Ar42, -, Sz42, Nn42, -, -⟩ := id Vq40
    refine own_st (X40.arraylength hx Ar42.1 (State.isArrayOf_alike hZ.alike Ar42.2.1) (g := (mkF m 122 #[.val (.int u0), .val (.int u1), .val (.int u2), .val (.int u3), .val (.int (0 : Int32)), .val (.int (u1.toInt8.toInt32)), .val (.int (u2.toInt8.toInt32)), .val (.int (u3.toInt8.toInt32)), .val (.ref b39), .val (.ref bq40)] [(.ref bq40)])) rfl rfl (hb hby at_122)) ?_
    rw [len_of Sz42 Nn42]
    show own_Go _ _ _ _ (T40.setTop (mkF m 123 #[.val (.int u0), .val (.int u1), .val (.int u2), .val (.int u3), .val (.int (0 : Int32)), .val (.int (u1.toInt8.toInt32)), .val (.int (u2.toInt8.toInt32)), .val (.int (u3.toInt8.toInt32)), .val (.ref b39), .val (.ref bq40)] [(.int (1 : Int32))]))
    refine own_st (fun _ k => XS.iload X40.here hx rfl (hb hby at_123) rfl k) ?_
    show own_Go _ _ _ _ (T40.setTop (mkF m 125 #[.val (.int u0), .val (.int u1), .val (.int u2), .val (.int u3), .val (.int (0 : Int32)), .val (.int (u1.toInt8.toInt32)), .val (.int (u2.toInt8.toInt32)), .val (.int (u3.toInt8.toInt32)), .val (.ref b39), .val (.ref bq40)] [(.int (0 : Int32)), (.int (1 : Int32))]))
    refine own_st (fun _ k => XS.iconst X40.here hx rfl (hb hby at_125) k) ?_
    show own_Go _ _ _ _ (T40.setTop (mkF m 126 #[.val (.int u0), .val (.int u1), .val (.int u2), .val (.int u3), .val (.int (0 : Int32)), .val (.int (u1.toInt8.toInt32)), .val (.int (u2.toInt8.toInt32)), .val (.int (u3.toInt8.toInt32)), .val (.ref b39), .val (.ref bq40)] [(.int (1 : Int32)), (.int (0 : Int32)), (.int (1 : Int32))]))
    refine own_st (fun _ k => XS.iadd X40.here hx rfl (hb hby at_126) rfl k) ?_
    show own_Go _ _ _ _ (T40.setTop (mkF m 127 #[.val (.int u0), .val (.int u1), .val (.int u2), .val (.int u3), .val (.int (0 : Int32)), .val (.int (u1.toInt8.toInt32)), .val (.int (u2.toInt8.toInt32)), .val (.int (u3.toInt8.toInt32)), .val (.ref b39), .val (.ref bq40)] [(.int (1 : Int32)), (.int (1 : Int32))]))
    refine own_st (fun _ k => XS.icmpYes X40.here hx rfl (pc0 := 127) (pc' := 132) rfl (hb hby at_127) rfl (teq (by decide : ((1 : Int32) = (1 : Int32)))).1 (by decide) (by decide) k) ?_
    show own_Go _ _ _ _ (T40.setTop (mkF m 132 #[.val (.int u0), .val (.int u1), .val (.int u2), .val (.int u3), .val (.int (0 : Int32)), .val (.int (u1.toInt8.toInt32)), .val (.int (u2.toInt8.toInt32)), .val (.int (u3.toInt8.toInt32)), .val (.ref b39), .val (.ref bq40)] []))
    refine own_st (fun _ k => XS.aload X40.here hx rfl (hb hby at_132) rfl rfl k) ?_
    show own_Go _ _ _ _ (T40.setTop (mkF m 134 #[.val (.int u0), .val (.int u1), .val (.int u2), .val (.int u3), .val (.int (0 : Int32)), .val (.int (u1.toInt8.toInt32)), .val (.int (u2.toInt8.toInt32)), .val (.int (u3.toInt8.toInt32)), .val (.ref b39), .val (.ref bq40)] [(.ref bq40)]))
    refine own_st (fun _ k => XS.iload X40.here hx rfl (hb hby at_134) rfl k) ?_
    show own_Go _ _ _ _ (T40.setTop (mkF m 136 #[.val (.int u0), .val (.int u1), .val (.int u2), .val (.int u3), .val (.int (0 : Int32)), .val (.int (u1.toInt8.toInt32)), .val (.int (u2.toInt8.toInt32)), .val (.int (u3.toInt8.toInt32)), .val (.ref b39), .val (.ref bq40)] [(.int (0 : Int32)), (.ref bq40)]))
    obtain ⟨cl43, Ar43, -, Sz43, Nn43, Hs43, -⟩ := id Vq40
    have hin43 : ¬ ((0 : Int32) < 0 ∨ cl43.slots.size ≤ ((0 : Int32)).toNatClampNeg) := inb_of Sz43 ⟨(by decide : ¬ ((0 : Int32) < (0 : Int32))), (by decide : (0 : Int32) < (1 : Int32))⟩
    have hat43 : cl43.slots[((0 : Int32)).toNatClampNeg]? = some (.int (48 : Int32)) := Hs43.at hin43 rfl
    refine own_st (X40.baloadBytes hx (j := (0 : Int32)) (v := (.int (48 : Int32))) Ar43.1 (State.isArrayOf_alike hZ.alike Ar43.2.1) Ar43.2.2 hin43 hat43 (g := (mkF m 136 #[.val (.int u0), .val (.int u1), .val (.int u2), .val (.int u3), .val (.int (0 : Int32)), .val (.int (u1.toInt8.toInt32)), .val (.int (u2.toInt8.toInt32)), .val (.int (u3.toInt8.toInt32)), .val (.ref b39), .val (.ref bq40)] [(.int (0 : Int32)), (.ref bq40)])) rfl rfl (hb hby at_136)) ?_
    show own_Go _ _ _ _ (T40.setTop (mkF m 137 #[.val (.int u0), .val (.int u1), .val (.int u2), .val (.int u3), .val (.int (0 : Int32)), .val (.int (u1.toInt8.toInt32)), .val (.int (u2.toInt8.toInt32)), .val (.int (u3.toInt8.toInt32)), .val (.ref b39), .val (.ref bq40)] [(.int (48 : Int32))]))
    refine own_st (fun _ k => XS.bipush X40.here hx rfl (hb hby at_137) k) ?_
    show own_Go _ _ _ _ (T40.setTop (mkF m 139 #[.val (.int u0), .val (.int u1), .val (.int u2), .val (.int u3), .val (.int (0 : Int32)), .val (.int (u1.toInt8.toInt32)), .val (.int (u2.toInt8.toInt32)), .val (.int (u3.toInt8.toInt32)), .val (.ref b39), .val (.ref bq40)] [(.int (48 : Int32)), (.int (48 : Int32))]))
    refine own_st (fun _ k => XS.icmpYes X40.here hx rfl (pc0 := 139) (pc' := 144) rfl (hb hby at_139) rfl (teq (by decide : ((48 : Int32) = (48 : Int32)))).1 (by decide) (by decide) k) ?_
    show own_Go _ _ _ _ (T40.setTop (mkF m 144 #[.val (.int u0), .val (.int u1), .val (.int u2), .val (.int u3), .val (.int (0 : Int32)), .val (.int (u1.toInt8.toInt32)), .val (.int (u2.toInt8.toInt32)), .val (.int (u3.toInt8.toInt32)), .val (.ref b39), .val (.ref bq40)] []))
    refine own_st (fun _ k => XS.iload X40.here hx rfl (hb hby at_144) rfl k) ?_
    show own_Go _ _ _ _ (T40.setTop (mkF m 146 #[.val (.int u0), .val (.int u1), .val (.int u2), .val (.int u3), .val (.int (0 : Int32)), .val (.int (u1.toInt8.toInt32)), .val (.int (u2.toInt8.toInt32)), .val (.int (u3.toInt8.toInt32)), .val (.ref b39), .val (.ref bq40)] [(.int (0 : Int32))]))
    refine own_st (fun _ k => XS.ifYes X40.here hx rfl (pc0 := 146) (pc' := 169) rfl (hb hby at_146) rfl ((if0 _ _).trans (flt (by decide : ¬ ((0 : Int32) < (0 : Int32)))).2.2.2) (by decide) (by decide) k) ?_
    show own_Go _ _ _ _ (T40.setTop (mkF m 169 #[.val (.int u0), .val (.int u1), .val (.int u2), .val (.int u3), .val (.int (0 : Int32)), .val (.int (u1.toInt8.toInt32)), .val (.int (u2.toInt8.toInt32)), .val (.int (u3.toInt8.toInt32)), .val (.ref b39), .val (.ref bq40)] []))
    refine own_st (fun _ k => XS.iload X40.here hx rfl (hb hby at_169) rfl k) ?_
    show own_Go _ _ _ _ (T40.setTop (mkF m 171 #[.val (.int u0), .val (.int u1), .val (.int u2), .val (.int u3), .val (.int (0 : Int32)), .val (.int (u1.toInt8.toInt32)), .val (.int (u2.toInt8.toInt32)), .val (.int (u3.toInt8.toInt32)), .val (.ref b39), .val (.ref bq40)] [(.int (0 : Int32))]))
    refine own_st (fun _ k => XS.iconst X40.here hx rfl (hb hby at_171) k) ?_
    show own_Go _ _ _ _ (T40.setTop (mkF m 172 #[.val (.int u0), .val (.int u1), .val (.int u2), .val (.int u3), .val (.int (0 : Int32)), .val (.int (u1.toInt8.toInt32)), .val (.int (u2.toInt8.toInt32)), .val (.int (u3.toInt8.toInt32)), .val (.ref b39), .val (.ref bq40)] [(.int (1 : Int32)), (.int (0 : Int32))]))
    refine own_st (fun _ k => XS.icmpYes X40.here hx rfl (pc0 := 172) (pc' := 195) rfl (hb hby at_172) rfl (flt (by decide : ¬ ((1 : Int32) < (0 : Int32)))).2.2.2 (by decide) (by decide) k) ?_
    show own_Go _ _ _ _ (T40.setTop (mkF m 195 #[.val (.int u0), .val (.int u1), .val (.int u2), .val (.int u3), .val (.int (0 : Int32)), .val (.int (u1.toInt8.toInt32)), .val (.int (u2.toInt8.toInt32)), .val (.int (u3.toInt8.toInt32)), .val (.ref b39), .val (.ref bq40)] []))
    refine own_st (fun _ k => XS.iload X40.here hx rfl (hb hby at_195) rfl k) ?_
    show own_Go _ _ _ _ (T40.setTop (mkF m 197 #[.val (.int u0), .val (.int u1), .val (.int u2), .val (.int u3), .val (.int (0 : Int32)), .val (.int (u1.toInt8.toInt32)), .val (.int (u2.toInt8.toInt32)), .val (.int (u3.toInt8.toInt32)), .val (.ref b39), .val (.ref bq40)] [(.int (0 : Int32))]))
    refine own_st (fun _ k => XS.iconst X40.here hx rfl (hb hby at_197) k) ?_
    show own_Go _ _ _ _ (T40.setTop (mkF m 198 #[.val (.int u0), .val (.int u1), .val (.int u2), .val (.int u3), .val (.int (0 : Int32)), .val (.int (u1.toInt8.toInt32)), .val (.int (u2.toInt8.toInt32)), .val (.int (u3.toInt8.toInt32)), .val (.ref b39), .val (.ref bq40)] [(.int (2 : Int32)), (.int (0 : Int32))]))
    refine own_st (fun _ k => XS.icmpYes X40.here hx rfl (pc0 := 198) (pc' := 221) rfl (hb hby at_198) rfl (flt (by decide : ¬ ((2 : Int32) < (0 : Int32)))).2.2.2 (by decide) (by decide) k) ?_
    show own_Go _ _ _ _ (T40.setTop (mkF m 221 #[.val (.int u0), .val (.int u1), .val (.int u2), .val (.int u3), .val (.int (0 : Int32)), .val (.int (u1.toInt8.toInt32)), .val (.int (u2.toInt8.toInt32)), .val (.int (u3.toInt8.toInt32)), .val (.ref b39), .val (.ref bq40)] []))
    refine own_st (fun _ k => XS.iconst X40.here hx rfl (hb hby at_221) k) ?_
    show own_Go _ _ _ _ (T40.setTop (mkF m 222 #[.val (.int u0), .val (.int u1), .val (.int u2), .val (.int u3), .val (.int (0 : Int32)), .val (.int (u1.toInt8.toInt32)), .val (.int (u2.toInt8.toInt32)), .val (.int (u3.toInt8.toInt32)), .val (.ref b39), .val (.ref bq40)] [(.int (1 : Int32))]))
    obtain ⟨fs, hr, hrun, hended, hW, hsame⟩ := X40.leave (v := some (.int (1 : Int32))) (fun h => by rw [Bd.returns] at h; cases h)
    refine own_out (retN X40 hx (t := .boolean) Bd.returns (by simp) (hb hby at_222) hr) ⟨hrun, hended, _, _, rfl, ?_, ⟨_, rfl⟩, hW, hsame.mono (by decide) (by decide)⟩
    show Q0 Z u0 u1 u2 u3 h0 n0 _ T40.heap _
    exact ⟨rfl, N40⟩
  · skip
    rw [hs38]
    show own_Go _ _ _ _ (s₁.setTop (mkF m 5 #[.val (.int u0), .val (.int u1), .val (.int u2), .val (.int u3), .val (.int (1 : Int32)), .unset, .unset, .unset, .unset, .unset] []))
    refine own_st (fun _ k => XS.iloadN X0.here hx rfl (hb hby at_5) rfl k) ?_
    show own_Go _ _ _ _ (s₁.setTop (mkF m 6 #[.val (.int u0), .val (.int u1), .val (.int u2), .val (.int u3), .val (.int (1 : Int32)), .unset, .unset, .unset, .unset, .unset] [(.int u1)]))
    refine own_st (fun _ k => XS.i2b X0.here hx rfl (hb hby at_6) rfl k) ?_
    show own_Go _ _ _ _ (s₁.setTop (mkF m 7 #[.val (.int u0), .val (.int u1), .val (.int u2), .val (.int u3), .val (.int (1 : Int32)), .unset, .unset, .unset, .unset, .unset] [(.int (u1.toInt8.toInt32))]))
    refine own_st (fun _ k => XS.istore X0.here hx rfl (hb hby at_7) rfl (l' := #[.val (.int u0), .val (.int u1), .val (.int u2), .val (.int u3), .val (.int (1 : Int32)), .val (.int (u1.toInt8.toInt32)), .unset, .unset, .unset, .unset]) rfl k) ?_
    show own_Go _ _ _ _ (s₁.setTop (mkF m 9 #[.val (.int u0), .val (.int u1), .val (.int u2), .val (.int u3), .val (.int (1 : Int32)), .val (.int (u1.toInt8.toInt32)), .unset, .unset, .unset, .unset] []))
    refine own_st (fun _ k => XS.iloadN X0.here hx rfl (hb hby at_9) rfl k) ?_
    show own_Go _ _ _ _ (s₁.setTop (mkF m 10 #[.val (.int u0), .val (.int u1), .val (.int u2), .val (.int u3), .val (.int (1 : Int32)), .val (.int (u1.toInt8.toInt32)), .unset, .unset, .unset, .unset] [(.int u2)]))
    refine own_st (fun _ k => XS.i2b X0.here hx rfl (hb hby at_10) rfl k) ?_
    show own_Go _ _ _ _ (s₁.setTop (mkF m 11 #[.val (.int u0), .val (.int u1), .val (.int u2), .val (.int u3), .val (.int (1 : Int32)), .val (.int (u1.toInt8.toInt32)), .unset, .unset, .unset, .unset] [(.int (u2.toInt8.toInt32))]))
    refine own_st (fun _ k => XS.istore X0.here hx rfl (hb hby at_11) rfl (l' := #[.val (.int u0), .val (.int u1), .val (.int u2), .val (.int u3), .val (.int (1 : Int32)), .val (.int (u1.toInt8.toInt32)), .val (.int (u2.toInt8.toInt32)), .unset, .unset, .unset]) rfl k) ?_
    show own_Go _ _ _ _ (s₁.setTop (mkF m 13 #[.val (.int u0), .val (.int u1), .val (.int u2), .val (.int u3), .val (.int (1 : Int32)), .val (.int (u1.toInt8.toInt32)), .val (.int (u2.toInt8.toInt32)), .unset, .unset, .unset] []))
    refine own_st (fun _ k => XS.iloadN X0.here hx rfl (hb hby at_13) rfl k) ?_
    show own_Go _ _ _ _ (s₁.setTop (mkF m 14 #[.val (.int u0), .val (.int u1), .val (.int u2), .val (.int u3), .val (.int (1 : Int32)), .val (.int (u1.toInt8.toInt32)), .val (.int (u2.toInt8.toInt32)), .unset, .unset, .unset] [(.int u3)]))
    refine own_st (fun _ k => XS.i2b X0.here hx rfl (hb hby at_14) rfl k) ?_
    show own_Go _ _ _ _ (s₁.setTop (mkF m 15 #[.val (.int u0), .val (.int u1), .val (.int u2), .val (.int u3), .val (.int (1 : Int32)), .val (.int (u1.toInt8.toInt32)), .val (.int (u2.toInt8.toInt32)), .unset, .unset, .unset] [(.int (u3.toInt8.toInt32))]))
    refine own_st (fun _ k => XS.istore X0.here hx rfl (hb hby at_15) rfl (l' := #[.val (.int u0), .val (.int u1), .val (.int u2), .val (.int u3), .val (.int (1 : Int32)), .val (.int (u1.toInt8.toInt32)), .val (.int (u2.toInt8.toInt32)), .val (.int (u3.toInt8.toInt32)), .unset, .unset]) rfl k) ?_
    show own_Go _ _ _ _ (s₁.setTop (mkF m 17 #[.val (.int u0), .val (.int u1), .val (.int u2), .val (.int u3), .val (.int (1 : Int32)), .val (.int (u1.toInt8.toInt32)), .val (.int (u2.toInt8.toInt32)), .val (.int (u3.toInt8.toInt32)), .unset, .unset] []))
    refine own_st (fun _ k => XS.iload X0.here hx rfl (hb hby at_17) rfl k) ?_
    show own_Go _ _ _ _ (s₁.setTop (mkF m 19 #[.val (.int u0), .val (.int u1), .val (.int u2), .val (.int u3), .val (.int (1 : Int32)), .val (.int (u1.toInt8.toInt32)), .val (.int (u2.toInt8.toInt32)), .val (.int (u3.toInt8.toInt32)), .unset, .unset] [(.int (1 : Int32))]))
    refine own_st (fun _ k => XS.ifYes X0.here hx rfl (pc0 := 19) (pc' := 30) rfl (hb hby at_19) rfl ((if0 _ _).trans (feq (by decide : ¬ ((1 : Int32) = (0 : Int32)))).2) (by decide) (by decide) k) ?_
    show own_Go _ _ _ _ (s₁.setTop (mkF m 30 #[.val (.int u0), .val (.int u1), .val (.int u2), .val (.int u3), .val (.int (1 : Int32)), .val (.int (u1.toInt8.toInt32)), .val (.int (u2.toInt8.toInt32)), .val (.int (u3.toInt8.toInt32)), .unset, .unset] []))
    refine own_st (fun _ k => XS.iload X0.here hx rfl (hb hby at_30) rfl k) ?_
    show own_Go _ _ _ _ (s₁.setTop (mkF m 32 #[.val (.int u0), .val (.int u1), .val (.int u2), .val (.int u3), .val (.int (1 : Int32)), .val (.int (u1.toInt8.toInt32)), .val (.int (u2.toInt8.toInt32)), .val (.int (u3.toInt8.toInt32)), .unset, .unset] [(.int (1 : Int32))]))
    refine own_st (fun _ k => XS.iconst X0.here hx rfl (hb hby at_32) k) ?_
    show own_Go _ _ _ _ (s₁.setTop (mkF m 33 #[.val (.int u0), .val (.int u1), .val (.int u2), .val (.int u3), .val (.int (1 : Int32)), .val (.int (u1.toInt8.toInt32)), .val (.int (u2.toInt8.toInt32)), .val (.int (u3.toInt8.toInt32)), .unset, .unset] [(.int (1 : Int32)), (.int (1 : Int32))]))
    refine own_st (fun _ k => XS.icmpNo X0.here hx rfl (hb hby at_33) rfl (teq (by decide : ((1 : Int32) = (1 : Int32)))).2 k) ?_
    show own_Go _ _ _ _ (s₁.setTop (mkF m 36 #[.val (.int u0), .val (.int u1), .val (.int u2), .val (.int u3), .val (.int (1 : Int32)), .val (.int (u1.toInt8.toInt32)), .val (.int (u2.toInt8.toInt32)), .val (.int (u3.toInt8.toInt32)), .unset, .unset] []))
    refine own_st (fun _ k => XS.iconst X0.here hx rfl (hb hby at_36) k) ?_
    show own_Go _ _ _ _ (s₁.setTop (mkF m 37 #[.val (.int u0), .val (.int u1), .val (.int u2), .val (.int u3), .val (.int (1 : Int32)), .val (.int (u1.toInt8.toInt32)), .val (.int (u2.toInt8.toInt32)), .val (.int (u3.toInt8.toInt32)), .unset, .unset] [(.int (1 : Int32))]))
    obtain ⟨T44, h44, k44, X44, e44, E44, A44, st44⟩ := newP X0 hx hZ (hw _ (List.mem_of_getElem? (i := 0) rfl)) e0 (g := (mkF m 37 #[.val (.int u0), .val (.int u1), .val (.int u2), .val (.int u3), .val (.int (1 : Int32)), .val (.int (u1.toInt8.toInt32)), .val (.int (u2.toInt8.toInt32)), .val (.int (u3.toInt8.toInt32)), .unset, .unset] [(.int (1 : Int32))])) rfl (hb hby at_37) rfl (by decide : ¬ ((1 : Int32) < (0 : Int32))) (cap := 1) (by decide : ((1 : Int32)).toNatClampNeg ≤ 1) (by decide) (by decide) (by decide)
    obtain ⟨b44, g44⟩ : ∃ z, z = h0.size := ⟨_, rfl⟩
    rw [← g44] at A44 st44
    refine own_st st44 ?_
    have Z44 : n0 ≤ h44.size := Nat.le_trans Z0 E44.1
    have gnb44 : n0 ≤ b44 := Nat.le_trans Z0 (Nat.le_of_eq g44.symm)
    have gkb44 : h0.size ≤ b44 := Nat.le_trans K0.1 (Nat.le_of_eq g44.symm)
    have K44 : Keep h0 h44 [] := K0.ext E44
    have V44 : Arv Z h44 b44 k44 .byte (1 : Int32) [(.int (0 : Int32))] (.int (0 : Int32)) := (Arv.new A44 (by decide : ¬ ((1 : Int32) < (0 : Int32)))).pad (pad_rep [] (.int (0 : Int32)) 1)
    show own_Go _ _ _ _ (T44.setTop (mkF m 39 #[.val (.int u0), .val (.int u1), .val (.int u2), .val (.int u3), .val (.int (1 : Int32)), .val (.int (u1.toInt8.toInt32)), .val (.int (u2.toInt8.toInt32)), .val (.int (u3.toInt8.toInt32)), .unset, .unset] [(.ref b44)]))
    refine own_st (fun _ k => XS.dup X44.here hx rfl (hb hby at_39) rfl rfl k) ?_
    show own_Go _ _ _ _ (T44.setTop (mkF m 40 #[.val (.int u0), .val (.int u1), .val (.int u2), .val (.int u3), .val (.int (1 : Int32)), .val (.int (u1.toInt8.toInt32)), .val (.int (u2.toInt8.toInt32)), .val (.int (u3.toInt8.toInt32)), .unset, .unset] [(.ref b44), (.ref b44)]))
    refine own_st (fun _ k => XS.iconst X44.here hx rfl (hb hby at_40) k) ?_
    show own_Go _ _ _ _ (T44.setTop (mkF m 41 #[.val (.int u0), .val (.int u1), .val (.int u2), .val (.int u3), .val (.int (1 : Int32)), .val (.int (u1.toInt8.toInt32)), .val (.int (u2.toInt8.toInt32)), .val (.int (u3.toInt8.toInt32)), .unset, .unset] [(.int (0 : Int32)), (.ref b44), (.ref b44)]))
    refine own_st (fun _ k => XS.iload X44.here hx rfl (hb hby at_41) rfl k) ?_
    show own_Go _ _ _ _ (T44.setTop (mkF m 43 #[.val (.int u0), .val (.int u1), .val (.int u2), .val (.int u3), .val (.int (1 : Int32)), .val (.int (u1.toInt8.toInt32)), .val (.int (u2.toInt8.toInt32)), .val (.int (u3.toInt8.toInt32)), .unset, .unset] [(.int (u1.toInt8.toInt32)), (.int (0 : Int32)), (.ref b44), (.ref b44)]))
    obtain ⟨cl45, Ar45, Kd45, Sz45, Nn45, Hs45, Gs45⟩ := id V44
    obtain ⟨T45, h45, X45, e45, W45, st45⟩ := stB X44 hx hZ e44 Ar45 (j := (0 : Int32)) (inb_of Sz45 ⟨(by decide : ¬ ((0 : Int32) < (0 : Int32))), (by decide : (0 : Int32) < (1 : Int32))⟩) (g := (mkF m 43 #[.val (.int u0), .val (.int u1), .val (.int u2), .val (.int u3), .val (.int (1 : Int32)), .val (.int (u1.toInt8.toInt32)), .val (.int (u2.toInt8.toInt32)), .val (.int (u3.toInt8.toInt32)), .unset, .unset] [(.int (u1.toInt8.toInt32)), (.int (0 : Int32)), (.ref b44), (.ref b44)])) rfl rfl (hb hby at_43)
    refine own_st st45 ?_
    have V45 := Arv.set Ar45 Kd45 Sz45 Nn45 Hs45 Gs45 (fits_nar_byte _) W45 0 rfl (Nat.le_of_ble_eq_true rfl)
    have V45' : Arv Z h45 b44 k44 .byte (1 : Int32) [(.int (u1.toInt8.toInt32))] (.int (0 : Int32)) := by have q := V45; rw [own_narB] at q; exact q
    have Z45 : n0 ≤ h45.size := Nat.le_trans Z44 (Nat.le_of_eq W45.size.symm)
    have N45 := Fr.snoc X45 N0 gnb44
    have K45 : Keep h0 h45 [] := K44.wr W45 (Or.inr gkb44)
    show own_Go _ _ _ _ (T45.setTop (mkF m 44 #[.val (.int u0), .val (.int u1), .val (.int u2), .val (.int u3), .val (.int (1 : Int32)), .val (.int (u1.toInt8.toInt32)), .val (.int (u2.toInt8.toInt32)), .val (.int (u3.toInt8.toInt32)), .unset, .unset] [(.ref b44)]))
    refine own_st (fun _ k => XS.astore X45.here hx rfl (hb hby at_44) rfl rfl (l' := #[.val (.int u0), .val (.int u1), .val (.int u2), .val (.int u3), .val (.int (1 : Int32)), .val (.int (u1.toInt8.toInt32)), .val (.int (u2.toInt8.toInt32)), .val (.int (u3.toInt8.toInt32)), .val (.ref b44), .unset]) rfl k) ?_
    show own_Go _ _ _ _ (T45.setTop (mkF m 46 #[.val (.int u0), .val (.int u1), .val (.int u2), .val (.int u3), .val (.int (1 : Int32)), .val (.int (u1.toInt8.toInt32)), .val (.int (u2.toInt8.toInt32)), .val (.int (u3.toInt8.toInt32)), .val (.ref b44), .unset] []))
    refine own_st (fun _ k => XS.goto X45.here hx rfl (pc0 := 46) (pc' := 93) rfl (hb hby at_46) (by decide) (by decide) k) ?_
    show own_Go _ _ _ _ (T45.setTop (mkF m 93 #[.val (.int u0), .val (.int u1), .val (.int u2), .val (.int u3), .val (.int (1 : Int32)), .val (.int (u1.toInt8.toInt32)), .val (.int (u2.toInt8.toInt32)), .val (.int (u3.toInt8.toInt32)), .val (.ref b44), .unset] []))
    refine own_st (fun _ k => XS.aload X45.here hx rfl (hb hby at_93) rfl rfl k) ?_
    show own_Go _ _ _ _ (T45.setTop (mkF m 95 #[.val (.int u0), .val (.int u1), .val (.int u2), .val (.int u3), .val (.int (1 : Int32)), .val (.int (u1.toInt8.toInt32)), .val (.int (u2.toInt8.toInt32)), .val (.int (u3.toInt8.toInt32)), .val (.ref b44), .unset] [(.ref b44)]))
    obtain ⟨_, _, ⟨T46, L46, k46, n46⟩, -, X46, ⟨Lc46, hQ46, l46, y46, z46⟩, st46⟩ := Jvm.LawKit.callS X45 hx (y := (⟨"com/example/outlay/outlay/GitPath", "endBelow", "([B)[B"⟩ : MethodName)) hown (mvT hZ (hw _ (List.mem_of_getElem? (i := 1) rfl))) (mvT hZ (hw _ (List.mem_of_getElem? (i := 2) rfl))) (mvT hZ (hw _ (List.mem_of_getElem? (i := 3) rfl))) (mvT hZ (hw _ (List.mem_of_getElem? (i := 4) rfl))) (by decide) (backOf (W := 0) (rm1_1 l Z a0 hw [] b44 k44 (u1.toInt8.toInt32) h45 n0 Z45 V45') hZ (hw _ (List.mem_of_getElem? (i := 4) rfl)) (hw _ (List.mem_of_getElem? (i := 3) rfl)) (by decide) (by decide)) (g := (mkF m 95 #[.val (.int u0), .val (.int u1), .val (.int u2), .val (.int u3), .val (.int (1 : Int32)), .val (.int (u1.toInt8.toInt32)), .val (.int (u2.toInt8.toInt32)), .val (.int (u3.toInt8.toInt32)), .val (.ref b44), .unset] [(.ref b44)])) rfl (by rw [hml]; rfl) (argsL := [(.ref b44)]) (rest := []) (lenOf own_pd2 rfl) rfl (by show 2 * 0 + _ ≤ _; exact Nat.le_of_eq rfl) (hb hby at_95) (fun _ _ => ⟨rfl, e45, (by decide : 1 + 1 ≤ _), (by decide : 1 + 4 ≤ _)⟩)
    dsimp only [Pt.U, Pt.locs, Pt.cells, Pt.slots] at X46 l46 y46 z46 st46 hQ46
    subst l46 y46 z46
    obtain ⟨bq46, kq46, rfl, Nq46, Kq46, gq46, Vq46⟩ := hQ46
    have N46 := Fr.app N45 Nq46
    refine own_st st46 ?_
    have neb44_bq46 : b44 ≠ bq46 := Nat.ne_of_lt (Nat.lt_of_lt_of_le V45'.lt gq46)
    have gnbq46 : n0 ≤ bq46 := Nat.le_trans Z45 gq46
    have gkbq46 : h0.size ≤ bq46 := Nat.le_trans K45.1 gq46
    have z46_V_b44 := V45'.keep Kq46 nin0
    have Z46 : n0 ≤ T46.heap.size := Nat.le_trans Z45 Kq46.1
    have Kk46 : Keep h0 T46.heap [] := K45.trans Kq46 all0
    show own_Go _ _ _ _ (T46.setTop (mkF m 98 #[.val (.int u0), .val (.int u1), .val (.int u2), .val (.int u3), .val (.int (1 : Int32)), .val (.int (u1.toInt8.toInt32)), .val (.int (u2.toInt8.toInt32)), .val (.int (u3.toInt8.toInt32)), .val (.ref b44), .unset] [(.ref bq46)]))
    refine own_st (fun _ k => XS.astore X46.here hx rfl (hb hby at_98) rfl rfl (l' := #[.val (.int u0), .val (.int u1), .val (.int u2), .val (.int u3), .val (.int (1 : Int32)), .val (.int (u1.toInt8.toInt32)), .val (.int (u2.toInt8.toInt32)), .val (.int (u3.toInt8.toInt32)), .val (.ref b44), .val (.ref bq46)]) rfl k) ?_
    show own_Go _ _ _ _ (T46.setTop (mkF m 100 #[.val (.int u0), .val (.int u1), .val (.int u2), .val (.int u3), .val (.int (1 : Int32)), .val (.int (u1.toInt8.toInt32)), .val (.int (u2.toInt8.toInt32)), .val (.int (u3.toInt8.toInt32)), .val (.ref b44), .val (.ref bq46)] []))
    refine own_st (fun _ k => XS.aload X46.here hx rfl (hb hby at_100) rfl rfl k) ?_
    show own_Go _ _ _ _ (T46.setTop (mkF m 102 #[.val (.int u0), .val (.int u1), .val (.int u2), .val (.int u3), .val (.int (1 : Int32)), .val (.int (u1.toInt8.toInt32)), .val (.int (u2.toInt8.toInt32)), .val (.int (u3.toInt8.toInt32)), .val (.ref b44), .val (.ref bq46)] [(.ref bq46)]))
    refine own_st (fun _ k => XS.ifnullNo X46.here hx rfl (hb hby at_102) rfl k) ?_
    show own_Go _ _ _ _ (T46.setTop (mkF m 105 #[.val (.int u0), .val (.int u1), .val (.int u2), .val (.int u3), .val (.int (1 : Int32)), .val (.int (u1.toInt8.toInt32)), .val (.int (u2.toInt8.toInt32)), .val (.int (u3.toInt8.toInt32)), .val (.ref b44), .val (.ref bq46)] []))
    refine own_st (fun _ k => XS.aload X46.here hx rfl (hb hby at_105) rfl rfl k) ?_
    show own_Go _ _ _ _ (T46.setTop (mkF m 107 #[.val (.int u0), .val (.int u1), .val (.int u2), .val (.int u3), .val (.int (1 : Int32)), .val (.int (u1.toInt8.toInt32)), .val (.int (u2.toInt8.toInt32)), .val (.int (u3.toInt8.toInt32)), .val (.ref b44), .val (.ref bq46)] [(.ref bq46)]))
    refine own_st (fun _ k => XS.aload X46.here hx rfl (hb hby at_107) rfl rfl k) ?_
    show own_Go _ _ _ _ (T46.setTop (mkF m 109 #[.val (.int u0), .val (.int u1), .val (.int u2), .val (.int u3), .val (.int (1 : Int32)), .val (.int (u1.toInt8.toInt32)), .val (.int (u2.toInt8.toInt32)), .val (.int (u3.toInt8.toInt32)), .val (.ref b44), .val (.ref bq46)] [(.ref b44), (.ref bq46)]))
    refine own_st (fun _ k => Jvm.RoadKit.acmp (g := (mkF m 109 #[.val (.int u0), .val (.int u1), .val (.int u2), .val (.int u3), .val (.int (1 : Int32)), .val (.int (u1.toInt8.toInt32)), .val (.int (u2.toInt8.toInt32)), .val (.int (u3.toInt8.toInt32)), .val (.ref b44), .val (.ref bq46)] [(.ref b44), (.ref bq46)])) X46 hx rfl rfl rfl (pc0 := 109) (pc' := 112) (same := false) rfl (hb hby at_109) rfl (decide_eq_false fun q => (Ne.symm neb44_bq46) (Value.ref.inj q)) (by decide) (by decide) k) ?_
    show own_Go _ _ _ _ (T46.setTop (mkF m 112 #[.val (.int u0), .val (.int u1), .val (.int u2), .val (.int u3), .val (.int (1 : Int32)), .val (.int (u1.toInt8.toInt32)), .val (.int (u2.toInt8.toInt32)), .val (.int (u3.toInt8.toInt32)), .val (.ref b44), .val (.ref bq46)] []))
    refine own_st (fun _ k => XS.aload X46.here hx rfl (hb hby at_112) rfl rfl k) ?_
    show own_Go _ _ _ _ (T46.setTop (mkF m 114 #[.val (.int u0), .val (.int u1), .val (.int u2), .val (.int u3), .val (.int (1 : Int32)), .val (.int (u1.toInt8.toInt32)), .val (.int (u2.toInt8.toInt32)), .val (.int (u3.toInt8.toInt32)), .val (.ref b44), .val (.ref bq46)] [(.ref b44)]))
    obtain ⟨cl47, Ar47, -, Sz47, Nn47, -, -⟩ := id z46_V_b44
    refine own_st (X46.arraylength hx Ar47.1 (State.isArrayOf_alike hZ.alike Ar47.2.1) (g := (mkF m 114 #[.val (.int u0), .val (.int u1), .val (.int u2), .val (.int u3), .val (.int (1 : Int32)), .val (.int (u1.toInt8.toInt32)), .val (.int (u2.toInt8.toInt32)), .val (.int (u3.toInt8.toInt32)), .val (.ref b44), .val (.ref bq46)] [(.ref b44)])) rfl rfl (hb hby at_114)) ?_
    rw [len_of Sz47 Nn47]
    show own_Go _ _ _ _ (T46.setTop (mkF m 115 #[.val (.int u0), .val (.int u1), .val (.int u2), .val (.int u3), .val (.int (1 : Int32)), .val (.int (u1.toInt8.toInt32)), .val (.int (u2.toInt8.toInt32)), .val (.int (u3.toInt8.toInt32)), .val (.ref b44), .val (.ref bq46)] [(.int (1 : Int32))]))
    refine own_st (fun _ k => XS.iload X46.here hx rfl (hb hby at_115) rfl k) ?_
    show own_Go _ _ _ _ (T46.setTop (mkF m 117 #[.val (.int u0), .val (.int u1), .val (.int u2), .val (.int u3), .val (.int (1 : Int32)), .val (.int (u1.toInt8.toInt32)), .val (.int (u2.toInt8.toInt32)), .val (.int (u3.toInt8.toInt32)), .val (.ref b44), .val (.ref bq46)] [(.int (1 : Int32)), (.int (1 : Int32))]))
    refine own_st (fun _ k => XS.icmpNo X46.here hx rfl (hb hby at_117) rfl (teq (by decide : ((1 : Int32) = (1 : Int32)))).2 k) ?_
    show own_Go _ _ _ _ (T46.setTop (mkF m 120 #[.val (.int u0), .val (.int u1), .val (.int u2), .val (.int u3), .val (.int (1 : Int32)), .val (.int (u1.toInt8.toInt32)), .val (.int (u2.toInt8.toInt32)), .val (.int (u3.toInt8.toInt32)), .val (.ref b44), .val (.ref bq46)] []))
    refine own_st (fun _ k => XS.aload X46.here hx rfl (hb hby at_120) rfl rfl k) ?_
    show own_Go _ _ _ _ (T46.setTop (mkF m 122 #[.val (.int u0), .val (.int u1), .val (.int u2), .val (.int u3), .val (.int (1 : Int32)), .val (.int (u1.toInt8.toInt32)), .val (.int (u2.toInt8.toInt32)), .val (.int (u3.toInt8.toInt32)), .val (.ref b44), .val (.ref bq46)] [(.ref bq46)]))
    obtain ⟨cl48, Ar48, -, Sz48, Nn48, -, -⟩ := id Vq46
    refine own_st (X46.arraylength hx Ar48.1 (State.isArrayOf_alike hZ.alike Ar48.2.1) (g := (mkF m 122 #[.val (.int u0), .val (.int u1), .val (.int u2), .val (.int u3), .val (.int (1 : Int32)), .val (.int (u1.toInt8.toInt32)), .val (.int (u2.toInt8.toInt32)), .val (.int (u3.toInt8.toInt32)), .val (.ref b44), .val (.ref bq46)] [(.ref bq46)])) rfl rfl (hb hby at_122)) ?_
    rw [len_of Sz48 Nn48]
    show own_Go _ _ _ _ (T46.setTop (mkF m 123 #[.val (.int u0), .val (.int u1), .val (.int u2), .val (.int u3), .val (.int (1 : Int32)), .val (.int (u1.toInt8.toInt32)), .val (.int (u2.toInt8.toInt32)), .val (.int (u3.toInt8.toInt32)), .val (.ref b44), .val (.ref bq46)] [(.int (2 : Int32))]))
    refine own_st (fun _ k => XS.iload X46.here hx rfl (hb hby at_123) rfl k) ?_
    show own_Go _ _ _ _ (T46.setTop (mkF m 125 #[.val (.int u0), .val (.int u1), .val (.int u2), .val (.int u3), .val (.int (1 : Int32)), .val (.int (u1.toInt8.toInt32)), .val (.int (u2.toInt8.toInt32)), .val (.int (u3.toInt8.toInt32)), .val (.ref b44), .val (.ref bq46)] [(.int (1 : Int32)), (.int (2 : Int32))]))
    refine own_st (fun _ k => XS.iconst X46.here hx rfl (hb hby at_125) k) ?_
    show own_Go _ _ _ _ (T46.setTop (mkF m 126 #[.val (.int u0), .val (.int u1), .val (.int u2), .val (.int u3), .val (.int (1 : Int32)), .val (.int (u1.toInt8.toInt32)), .val (.int (u2.toInt8.toInt32)), .val (.int (u3.toInt8.toInt32)), .val (.ref b44), .val (.ref bq46)] [(.int (1 : Int32)), (.int (1 : Int32)), (.int (2 : Int32))]))
    refine own_st (fun _ k => XS.iadd X46.here hx rfl (hb hby at_126) rfl k) ?_
    show own_Go _ _ _ _ (T46.setTop (mkF m 127 #[.val (.int u0), .val (.int u1), .val (.int u2), .val (.int u3), .val (.int (1 : Int32)), .val (.int (u1.toInt8.toInt32)), .val (.int (u2.toInt8.toInt32)), .val (.int (u3.toInt8.toInt32)), .val (.ref b44), .val (.ref bq46)] [(.int (2 : Int32)), (.int (2 : Int32))]))
    refine own_st (fun _ k => XS.icmpYes X46.here hx rfl (pc0 := 127) (pc' := 132) rfl (hb hby at_127) rfl (teq (by decide : ((2 : Int32) = (2 : Int32)))).1 (by decide) (by decide) k) ?_
    show own_Go _ _ _ _ (T46.setTop (mkF m 132 #[.val (.int u0), .val (.int u1), .val (.int u2), .val (.int u3), .val (.int (1 : Int32)), .val (.int (u1.toInt8.toInt32)), .val (.int (u2.toInt8.toInt32)), .val (.int (u3.toInt8.toInt32)), .val (.ref b44), .val (.ref bq46)] []))
    refine own_st (fun _ k => XS.aload X46.here hx rfl (hb hby at_132) rfl rfl k) ?_
    show own_Go _ _ _ _ (T46.setTop (mkF m 134 #[.val (.int u0), .val (.int u1), .val (.int u2), .val (.int u3), .val (.int (1 : Int32)), .val (.int (u1.toInt8.toInt32)), .val (.int (u2.toInt8.toInt32)), .val (.int (u3.toInt8.toInt32)), .val (.ref b44), .val (.ref bq46)] [(.ref bq46)]))
    refine own_st (fun _ k => XS.iload X46.here hx rfl (hb hby at_134) rfl k) ?_
    show own_Go _ _ _ _ (T46.setTop (mkF m 136 #[.val (.int u0), .val (.int u1), .val (.int u2), .val (.int u3), .val (.int (1 : Int32)), .val (.int (u1.toInt8.toInt32)), .val (.int (u2.toInt8.toInt32)), .val (.int (u3.toInt8.toInt32)), .val (.ref b44), .val (.ref bq46)] [(.int (1 : Int32)), (.ref bq46)]))
    obtain ⟨cl49, Ar49, -, Sz49, Nn49, Hs49, -⟩ := id Vq46
    have hin49 : ¬ ((1 : Int32) < 0 ∨ cl49.slots.size ≤ ((1 : Int32)).toNatClampNeg) := inb_of Sz49 ⟨(by decide : ¬ ((1 : Int32) < (0 : Int32))), (by decide : (1 : Int32) < (2 : Int32))⟩
    have hat49 : cl49.slots[((1 : Int32)).toNatClampNeg]? = some (.int (48 : Int32)) := Hs49.at hin49 rfl
    refine own_st (X46.baloadBytes hx (j := (1 : Int32)) (v := (.int (48 : Int32))) Ar49.1 (State.isArrayOf_alike hZ.alike Ar49.2.1) Ar49.2.2 hin49 hat49 (g := (mkF m 136 #[.val (.int u0), .val (.int u1), .val (.int u2), .val (.int u3), .val (.int (1 : Int32)), .val (.int (u1.toInt8.toInt32)), .val (.int (u2.toInt8.toInt32)), .val (.int (u3.toInt8.toInt32)), .val (.ref b44), .val (.ref bq46)] [(.int (1 : Int32)), (.ref bq46)])) rfl rfl (hb hby at_136)) ?_
    show own_Go _ _ _ _ (T46.setTop (mkF m 137 #[.val (.int u0), .val (.int u1), .val (.int u2), .val (.int u3), .val (.int (1 : Int32)), .val (.int (u1.toInt8.toInt32)), .val (.int (u2.toInt8.toInt32)), .val (.int (u3.toInt8.toInt32)), .val (.ref b44), .val (.ref bq46)] [(.int (48 : Int32))]))
    refine own_st (fun _ k => XS.bipush X46.here hx rfl (hb hby at_137) k) ?_
    show own_Go _ _ _ _ (T46.setTop (mkF m 139 #[.val (.int u0), .val (.int u1), .val (.int u2), .val (.int u3), .val (.int (1 : Int32)), .val (.int (u1.toInt8.toInt32)), .val (.int (u2.toInt8.toInt32)), .val (.int (u3.toInt8.toInt32)), .val (.ref b44), .val (.ref bq46)] [(.int (48 : Int32)), (.int (48 : Int32))]))
    refine own_st (fun _ k => XS.icmpYes X46.here hx rfl (pc0 := 139) (pc' := 144) rfl (hb hby at_139) rfl (teq (by decide : ((48 : Int32) = (48 : Int32)))).1 (by decide) (by decide) k) ?_
    show own_Go _ _ _ _ (T46.setTop (mkF m 144 #[.val (.int u0), .val (.int u1), .val (.int u2), .val (.int u3), .val (.int (1 : Int32)), .val (.int (u1.toInt8.toInt32)), .val (.int (u2.toInt8.toInt32)), .val (.int (u3.toInt8.toInt32)), .val (.ref b44), .val (.ref bq46)] []))
    refine own_st (fun _ k => XS.iload X46.here hx rfl (hb hby at_144) rfl k) ?_
    show own_Go _ _ _ _ (T46.setTop (mkF m 146 #[.val (.int u0), .val (.int u1), .val (.int u2), .val (.int u3), .val (.int (1 : Int32)), .val (.int (u1.toInt8.toInt32)), .val (.int (u2.toInt8.toInt32)), .val (.int (u3.toInt8.toInt32)), .val (.ref b44), .val (.ref bq46)] [(.int (1 : Int32))]))
    refine own_st (fun _ k => XS.ifNo X46.here hx rfl (hb hby at_146) rfl ((if0 _ _).trans (tlt (by decide : ((0 : Int32) < (1 : Int32)))).2.2.2) k) ?_
    show own_Go _ _ _ _ (T46.setTop (mkF m 149 #[.val (.int u0), .val (.int u1), .val (.int u2), .val (.int u3), .val (.int (1 : Int32)), .val (.int (u1.toInt8.toInt32)), .val (.int (u2.toInt8.toInt32)), .val (.int (u3.toInt8.toInt32)), .val (.ref b44), .val (.ref bq46)] []))
    refine own_st (fun _ k => XS.aload X46.here hx rfl (hb hby at_149) rfl rfl k) ?_
    show own_Go _ _ _ _ (T46.setTop (mkF m 151 #[.val (.int u0), .val (.int u1), .val (.int u2), .val (.int u3), .val (.int (1 : Int32)), .val (.int (u1.toInt8.toInt32)), .val (.int (u2.toInt8.toInt32)), .val (.int (u3.toInt8.toInt32)), .val (.ref b44), .val (.ref bq46)] [(.ref bq46)]))
    refine own_st (fun _ k => XS.iconst X46.here hx rfl (hb hby at_151) k) ?_
    show own_Go _ _ _ _ (T46.setTop (mkF m 152 #[.val (.int u0), .val (.int u1), .val (.int u2), .val (.int u3), .val (.int (1 : Int32)), .val (.int (u1.toInt8.toInt32)), .val (.int (u2.toInt8.toInt32)), .val (.int (u3.toInt8.toInt32)), .val (.ref b44), .val (.ref bq46)] [(.int (0 : Int32)), (.ref bq46)]))
    obtain ⟨cl50, Ar50, -, Sz50, Nn50, Hs50, -⟩ := id Vq46
    have hin50 : ¬ ((0 : Int32) < 0 ∨ cl50.slots.size ≤ ((0 : Int32)).toNatClampNeg) := inb_of Sz50 ⟨(by decide : ¬ ((0 : Int32) < (0 : Int32))), (by decide : (0 : Int32) < (2 : Int32))⟩
    have hat50 : cl50.slots[((0 : Int32)).toNatClampNeg]? = some (.int (u1.toInt8.toInt32)) := Hs50.at hin50 rfl
    refine own_st (X46.baloadBytes hx (j := (0 : Int32)) (v := (.int (u1.toInt8.toInt32))) Ar50.1 (State.isArrayOf_alike hZ.alike Ar50.2.1) Ar50.2.2 hin50 hat50 (g := (mkF m 152 #[.val (.int u0), .val (.int u1), .val (.int u2), .val (.int u3), .val (.int (1 : Int32)), .val (.int (u1.toInt8.toInt32)), .val (.int (u2.toInt8.toInt32)), .val (.int (u3.toInt8.toInt32)), .val (.ref b44), .val (.ref bq46)] [(.int (0 : Int32)), (.ref bq46)])) rfl rfl (hb hby at_152)) ?_
    show own_Go _ _ _ _ (T46.setTop (mkF m 153 #[.val (.int u0), .val (.int u1), .val (.int u2), .val (.int u3), .val (.int (1 : Int32)), .val (.int (u1.toInt8.toInt32)), .val (.int (u2.toInt8.toInt32)), .val (.int (u3.toInt8.toInt32)), .val (.ref b44), .val (.ref bq46)] [(.int (u1.toInt8.toInt32))]))
    refine own_st (fun _ k => XS.iload X46.here hx rfl (hb hby at_153) rfl k) ?_
    show own_Go _ _ _ _ (T46.setTop (mkF m 155 #[.val (.int u0), .val (.int u1), .val (.int u2), .val (.int u3), .val (.int (1 : Int32)), .val (.int (u1.toInt8.toInt32)), .val (.int (u2.toInt8.toInt32)), .val (.int (u3.toInt8.toInt32)), .val (.ref b44), .val (.ref bq46)] [(.int (u1.toInt8.toInt32)), (.int (u1.toInt8.toInt32))]))
    refine own_st (fun _ k => XS.icmpNo X46.here hx rfl (hb hby at_155) rfl (teq (rfl : (u1.toInt8.toInt32) = (u1.toInt8.toInt32))).2 k) ?_
    show own_Go _ _ _ _ (T46.setTop (mkF m 158 #[.val (.int u0), .val (.int u1), .val (.int u2), .val (.int u3), .val (.int (1 : Int32)), .val (.int (u1.toInt8.toInt32)), .val (.int (u2.toInt8.toInt32)), .val (.int (u3.toInt8.toInt32)), .val (.ref b44), .val (.ref bq46)] []))
    refine own_st (fun _ k => XS.aload X46.here hx rfl (hb hby at_158) rfl rfl k) ?_
    show own_Go _ _ _ _ (T46.setTop (mkF m 160 #[.val (.int u0), .val (.int u1), .val (.int u2), .val (.int u3), .val (.int (1 : Int32)), .val (.int (u1.toInt8.toInt32)), .val (.int (u2.toInt8.toInt32)), .val (.int (u3.toInt8.toInt32)), .val (.ref b44), .val (.ref bq46)] [(.ref b44)]))
    refine own_st (fun _ k => XS.iconst X46.here hx rfl (hb hby at_160) k) ?_
    show own_Go _ _ _ _ (T46.setTop (mkF m 161 #[.val (.int u0), .val (.int u1), .val (.int u2), .val (.int u3), .val (.int (1 : Int32)), .val (.int (u1.toInt8.toInt32)), .val (.int (u2.toInt8.toInt32)), .val (.int (u3.toInt8.toInt32)), .val (.ref b44), .val (.ref bq46)] [(.int (0 : Int32)), (.ref b44)]))
    obtain ⟨cl51, Ar51, -, Sz51, Nn51, Hs51, -⟩ := id z46_V_b44
    have hin51 : ¬ ((0 : Int32) < 0 ∨ cl51.slots.size ≤ ((0 : Int32)).toNatClampNeg) := inb_of Sz51 ⟨(by decide : ¬ ((0 : Int32) < (0 : Int32))), (by decide : (0 : Int32) < (1 : Int32))⟩
    have hat51 : cl51.slots[((0 : Int32)).toNatClampNeg]? = some (.int (u1.toInt8.toInt32)) := Hs51.at hin51 rfl
    refine own_st (X46.baloadBytes hx (j := (0 : Int32)) (v := (.int (u1.toInt8.toInt32))) Ar51.1 (State.isArrayOf_alike hZ.alike Ar51.2.1) Ar51.2.2 hin51 hat51 (g := (mkF m 161 #[.val (.int u0), .val (.int u1), .val (.int u2), .val (.int u3), .val (.int (1 : Int32)), .val (.int (u1.toInt8.toInt32)), .val (.int (u2.toInt8.toInt32)), .val (.int (u3.toInt8.toInt32)), .val (.ref b44), .val (.ref bq46)] [(.int (0 : Int32)), (.ref b44)])) rfl rfl (hb hby at_161)) ?_
    show own_Go _ _ _ _ (T46.setTop (mkF m 162 #[.val (.int u0), .val (.int u1), .val (.int u2), .val (.int u3), .val (.int (1 : Int32)), .val (.int (u1.toInt8.toInt32)), .val (.int (u2.toInt8.toInt32)), .val (.int (u3.toInt8.toInt32)), .val (.ref b44), .val (.ref bq46)] [(.int (u1.toInt8.toInt32))]))
    refine own_st (fun _ k => XS.iload X46.here hx rfl (hb hby at_162) rfl k) ?_
    show own_Go _ _ _ _ (T46.setTop (mkF m 164 #[.val (.int u0), .val (.int u1), .val (.int u2), .val (.int u3), .val (.int (1 : Int32)), .val (.int (u1.toInt8.toInt32)), .val (.int (u2.toInt8.toInt32)), .val (.int (u3.toInt8.toInt32)), .val (.ref b44), .val (.ref bq46)] [(.int (u1.toInt8.toInt32)), (.int (u1.toInt8.toInt32))]))
    refine own_st (fun _ k => XS.icmpYes X46.here hx rfl (pc0 := 164) (pc' := 169) rfl (hb hby at_164) rfl (teq (rfl : (u1.toInt8.toInt32) = (u1.toInt8.toInt32))).1 (by decide) (by decide) k) ?_
    show own_Go _ _ _ _ (T46.setTop (mkF m 169 #[.val (.int u0), .val (.int u1), .val (.int u2), .val (.int u3), .val (.int (1 : Int32)), .val (.int (u1.toInt8.toInt32)), .val (.int (u2.toInt8.toInt32)), .val (.int (u3.toInt8.toInt32)), .val (.ref b44), .val (.ref bq46)] []))
    refine own_st (fun _ k => XS.iload X46.here hx rfl (hb hby at_169) rfl k) ?_
    show own_Go _ _ _ _ (T46.setTop (mkF m 171 #[.val (.int u0), .val (.int u1), .val (.int u2), .val (.int u3), .val (.int (1 : Int32)), .val (.int (u1.toInt8.toInt32)), .val (.int (u2.toInt8.toInt32)), .val (.int (u3.toInt8.toInt32)), .val (.ref b44), .val (.ref bq46)] [(.int (1 : Int32))]))
    refine own_st (fun _ k => XS.iconst X46.here hx rfl (hb hby at_171) k) ?_
    show own_Go _ _ _ _ (T46.setTop (mkF m 172 #[.val (.int u0), .val (.int u1), .val (.int u2), .val (.int u3), .val (.int (1 : Int32)), .val (.int (u1.toInt8.toInt32)), .val (.int (u2.toInt8.toInt32)), .val (.int (u3.toInt8.toInt32)), .val (.ref b44), .val (.ref bq46)] [(.int (1 : Int32)), (.int (1 : Int32))]))
    refine own_st (fun _ k => XS.icmpYes X46.here hx rfl (pc0 := 172) (pc' := 195) rfl (hb hby at_172) rfl (flt (by decide : ¬ ((1 : Int32) < (1 : Int32)))).2.2.2 (by decide) (by decide) k) ?_
    show own_Go _ _ _ _ (T46.setTop (mkF m 195 #[.val (.int u0), .val (.int u1), .val (.int u2), .val (.int u3), .val (.int (1 : Int32)), .val (.int (u1.toInt8.toInt32)), .val (.int (u2.toInt8.toInt32)), .val (.int (u3.toInt8.toInt32)), .val (.ref b44), .val (.ref bq46)] []))
    refine own_st (fun _ k => XS.iload X46.here hx rfl (hb hby at_195) rfl k) ?_
    show own_Go _ _ _ _ (T46.setTop (mkF m 197 #[.val (.int u0), .val (.int u1), .val (.int u2), .val (.int u3), .val (.int (1 : Int32)), .val (.int (u1.toInt8.toInt32)), .val (.int (u2.toInt8.toInt32)), .val (.int (u3.toInt8.toInt32)), .val (.ref b44), .val (.ref bq46)] [(.int (1 : Int32))]))
    refine own_st (fun _ k => XS.iconst X46.here hx rfl (hb hby at_197) k) ?_
    show own_Go _ _ _ _ (T46.setTop (mkF m 198 #[.val (.int u0), .val (.int u1), .val (.int u2), .val (.int u3), .val (.int (1 : Int32)), .val (.int (u1.toInt8.toInt32)), .val (.int (u2.toInt8.toInt32)), .val (.int (u3.toInt8.toInt32)), .val (.ref b44), .val (.ref bq46)] [(.int (2 : Int32)), (.int (1 : Int32))]))
    refine own_st (fun _ k => XS.icmpYes X46.here hx rfl (pc0 := 198) (pc' := 221) rfl (hb hby at_198) rfl (flt (by decide : ¬ ((2 : Int32) < (1 : Int32)))).2.2.2 (by decide) (by decide) k) ?_
    show own_Go _ _ _ _ (T46.setTop (mkF m 221 #[.val (.int u0), .val (.int u1), .val (.int u2), .val (.int u3), .val (.int (1 : Int32)), .val (.int (u1.toInt8.toInt32)), .val (.int (u2.toInt8.toInt32)), .val (.int (u3.toInt8.toInt32)), .val (.ref b44), .val (.ref bq46)] []))
    refine own_st (fun _ k => XS.iconst X46.here hx rfl (hb hby at_221) k) ?_
    show own_Go _ _ _ _ (T46.setTop (mkF m 222 #[.val (.int u0), .val (.int u1), .val (.int u2), .val (.int u3), .val (.int (1 : Int32)), .val (.int (u1.toInt8.toInt32)), .val (.int (u2.toInt8.toInt32)), .val (.int (u3.toInt8.toInt32)), .val (.ref b44), .val (.ref bq46)] [(.int (1 : Int32))]))
    obtain ⟨fs, hr, hrun, hended, hW, hsame⟩ := X46.leave (v := some (.int (1 : Int32))) (fun h => by rw [Bd.returns] at h; cases h)
    refine own_out (retN X46 hx (t := .boolean) Bd.returns (by simp) (hb hby at_222) hr) ⟨hrun, hended, _, _, rfl, ?_, ⟨_, rfl⟩, hW, hsame.mono (by decide) (by decide)⟩
    show Q0 Z u0 u1 u2 u3 h0 n0 _ T46.heap _
    exact ⟨rfl, N46⟩
  · skip
    rw [hs38]
    show own_Go _ _ _ _ (s₁.setTop (mkF m 5 #[.val (.int u0), .val (.int u1), .val (.int u2), .val (.int u3), .val (.int (2 : Int32)), .unset, .unset, .unset, .unset, .unset] []))
    refine own_st (fun _ k => XS.iloadN X0.here hx rfl (hb hby at_5) rfl k) ?_
    show own_Go _ _ _ _ (s₁.setTop (mkF m 6 #[.val (.int u0), .val (.int u1), .val (.int u2), .val (.int u3), .val (.int (2 : Int32)), .unset, .unset, .unset, .unset, .unset] [(.int u1)]))
    refine own_st (fun _ k => XS.i2b X0.here hx rfl (hb hby at_6) rfl k) ?_
    show own_Go _ _ _ _ (s₁.setTop (mkF m 7 #[.val (.int u0), .val (.int u1), .val (.int u2), .val (.int u3), .val (.int (2 : Int32)), .unset, .unset, .unset, .unset, .unset] [(.int (u1.toInt8.toInt32))]))
    refine own_st (fun _ k => XS.istore X0.here hx rfl (hb hby at_7) rfl (l' := #[.val (.int u0), .val (.int u1), .val (.int u2), .val (.int u3), .val (.int (2 : Int32)), .val (.int (u1.toInt8.toInt32)), .unset, .unset, .unset, .unset]) rfl k) ?_
    show own_Go _ _ _ _ (s₁.setTop (mkF m 9 #[.val (.int u0), .val (.int u1), .val (.int u2), .val (.int u3), .val (.int (2 : Int32)), .val (.int (u1.toInt8.toInt32)), .unset, .unset, .unset, .unset] []))
    refine own_st (fun _ k => XS.iloadN X0.here hx rfl (hb hby at_9) rfl k) ?_
    show own_Go _ _ _ _ (s₁.setTop (mkF m 10 #[.val (.int u0), .val (.int u1), .val (.int u2), .val (.int u3), .val (.int (2 : Int32)), .val (.int (u1.toInt8.toInt32)), .unset, .unset, .unset, .unset] [(.int u2)]))
    refine own_st (fun _ k => XS.i2b X0.here hx rfl (hb hby at_10) rfl k) ?_
    show own_Go _ _ _ _ (s₁.setTop (mkF m 11 #[.val (.int u0), .val (.int u1), .val (.int u2), .val (.int u3), .val (.int (2 : Int32)), .val (.int (u1.toInt8.toInt32)), .unset, .unset, .unset, .unset] [(.int (u2.toInt8.toInt32))]))
    refine own_st (fun _ k => XS.istore X0.here hx rfl (hb hby at_11) rfl (l' := #[.val (.int u0), .val (.int u1), .val (.int u2), .val (.int u3), .val (.int (2 : Int32)), .val (.int (u1.toInt8.toInt32)), .val (.int (u2.toInt8.toInt32)), .unset, .unset, .unset]) rfl k) ?_
    show own_Go _ _ _ _ (s₁.setTop (mkF m 13 #[.val (.int u0), .val (.int u1), .val (.int u2), .val (.int u3), .val (.int (2 : Int32)), .val (.int (u1.toInt8.toInt32)), .val (.int (u2.toInt8.toInt32)), .unset, .unset, .unset] []))
    refine own_st (fun _ k => XS.iloadN X0.here hx rfl (hb hby at_13) rfl k) ?_
    show own_Go _ _ _ _ (s₁.setTop (mkF m 14 #[.val (.int u0), .val (.int u1), .val (.int u2), .val (.int u3), .val (.int (2 : Int32)), .val (.int (u1.toInt8.toInt32)), .val (.int (u2.toInt8.toInt32)), .unset, .unset, .unset] [(.int u3)]))
    refine own_st (fun _ k => XS.i2b X0.here hx rfl (hb hby at_14) rfl k) ?_
    show own_Go _ _ _ _ (s₁.setTop (mkF m 15 #[.val (.int u0), .val (.int u1), .val (.int u2), .val (.int u3), .val (.int (2 : Int32)), .val (.int (u1.toInt8.toInt32)), .val (.int (u2.toInt8.toInt32)), .unset, .unset, .unset] [(.int (u3.toInt8.toInt32))]))
    refine own_st (fun _ k => XS.istore X0.here hx rfl (hb hby at_15) rfl (l' := #[.val (.int u0), .val (.int u1), .val (.int u2), .val (.int u3), .val (.int (2 : Int32)), .val (.int (u1.toInt8.toInt32)), .val (.int (u2.toInt8.toInt32)), .val (.int (u3.toInt8.toInt32)), .unset, .unset]) rfl k) ?_
    show own_Go _ _ _ _ (s₁.setTop (mkF m 17 #[.val (.int u0), .val (.int u1), .val (.int u2), .val (.int u3), .val (.int (2 : Int32)), .val (.int (u1.toInt8.toInt32)), .val (.int (u2.toInt8.toInt32)), .val (.int (u3.toInt8.toInt32)), .unset, .unset] []))
    refine own_st (fun _ k => XS.iload X0.here hx rfl (hb hby at_17) rfl k) ?_
    show own_Go _ _ _ _ (s₁.setTop (mkF m 19 #[.val (.int u0), .val (.int u1), .val (.int u2), .val (.int u3), .val (.int (2 : Int32)), .val (.int (u1.toInt8.toInt32)), .val (.int (u2.toInt8.toInt32)), .val (.int (u3.toInt8.toInt32)), .unset, .unset] [(.int (2 : Int32))]))
    refine own_st (fun _ k => XS.ifYes X0.here hx rfl (pc0 := 19) (pc' := 30) rfl (hb hby at_19) rfl ((if0 _ _).trans (feq (by decide : ¬ ((2 : Int32) = (0 : Int32)))).2) (by decide) (by decide) k) ?_
    show own_Go _ _ _ _ (s₁.setTop (mkF m 30 #[.val (.int u0), .val (.int u1), .val (.int u2), .val (.int u3), .val (.int (2 : Int32)), .val (.int (u1.toInt8.toInt32)), .val (.int (u2.toInt8.toInt32)), .val (.int (u3.toInt8.toInt32)), .unset, .unset] []))
    refine own_st (fun _ k => XS.iload X0.here hx rfl (hb hby at_30) rfl k) ?_
    show own_Go _ _ _ _ (s₁.setTop (mkF m 32 #[.val (.int u0), .val (.int u1), .val (.int u2), .val (.int u3), .val (.int (2 : Int32)), .val (.int (u1.toInt8.toInt32)), .val (.int (u2.toInt8.toInt32)), .val (.int (u3.toInt8.toInt32)), .unset, .unset] [(.int (2 : Int32))]))
    refine own_st (fun _ k => XS.iconst X0.here hx rfl (hb hby at_32) k) ?_
    show own_Go _ _ _ _ (s₁.setTop (mkF m 33 #[.val (.int u0), .val (.int u1), .val (.int u2), .val (.int u3), .val (.int (2 : Int32)), .val (.int (u1.toInt8.toInt32)), .val (.int (u2.toInt8.toInt32)), .val (.int (u3.toInt8.toInt32)), .unset, .unset] [(.int (1 : Int32)), (.int (2 : Int32))]))
    refine own_st (fun _ k => XS.icmpYes X0.here hx rfl (pc0 := 33) (pc' := 49) rfl (hb hby at_33) rfl (feq (by decide : ¬ ((2 : Int32) = (1 : Int32)))).2 (by decide) (by decide) k) ?_
    show own_Go _ _ _ _ (s₁.setTop (mkF m 49 #[.val (.int u0), .val (.int u1), .val (.int u2), .val (.int u3), .val (.int (2 : Int32)), .val (.int (u1.toInt8.toInt32)), .val (.int (u2.toInt8.toInt32)), .val (.int (u3.toInt8.toInt32)), .unset, .unset] []))
    refine own_st (fun _ k => XS.iload X0.here hx rfl (hb hby at_49) rfl k) ?_
    show own_Go _ _ _ _ (s₁.setTop (mkF m 51 #[.val (.int u0), .val (.int u1), .val (.int u2), .val (.int u3), .val (.int (2 : Int32)), .val (.int (u1.toInt8.toInt32)), .val (.int (u2.toInt8.toInt32)), .val (.int (u3.toInt8.toInt32)), .unset, .unset] [(.int (2 : Int32))]))
    refine own_st (fun _ k => XS.iconst X0.here hx rfl (hb hby at_51) k) ?_
    show own_Go _ _ _ _ (s₁.setTop (mkF m 52 #[.val (.int u0), .val (.int u1), .val (.int u2), .val (.int u3), .val (.int (2 : Int32)), .val (.int (u1.toInt8.toInt32)), .val (.int (u2.toInt8.toInt32)), .val (.int (u3.toInt8.toInt32)), .unset, .unset] [(.int (2 : Int32)), (.int (2 : Int32))]))
    refine own_st (fun _ k => XS.icmpNo X0.here hx rfl (hb hby at_52) rfl (teq (by decide : ((2 : Int32) = (2 : Int32)))).2 k) ?_
    show own_Go _ _ _ _ (s₁.setTop (mkF m 55 #[.val (.int u0), .val (.int u1), .val (.int u2), .val (.int u3), .val (.int (2 : Int32)), .val (.int (u1.toInt8.toInt32)), .val (.int (u2.toInt8.toInt32)), .val (.int (u3.toInt8.toInt32)), .unset, .unset] []))
    refine own_st (fun _ k => XS.iconst X0.here hx rfl (hb hby at_55) k) ?_
    show own_Go _ _ _ _ (s₁.setTop (mkF m 56 #[.val (.int u0), .val (.int u1), .val (.int u2), .val (.int u3), .val (.int (2 : Int32)), .val (.int (u1.toInt8.toInt32)), .val (.int (u2.toInt8.toInt32)), .val (.int (u3.toInt8.toInt32)), .unset, .unset] [(.int (2 : Int32))]))
    obtain ⟨T52, h52, k52, X52, e52, E52, A52, st52⟩ := newP X0 hx hZ (hw _ (List.mem_of_getElem? (i := 0) rfl)) e0 (g := (mkF m 56 #[.val (.int u0), .val (.int u1), .val (.int u2), .val (.int u3), .val (.int (2 : Int32)), .val (.int (u1.toInt8.toInt32)), .val (.int (u2.toInt8.toInt32)), .val (.int (u3.toInt8.toInt32)), .unset, .unset] [(.int (2 : Int32))])) rfl (hb hby at_56) rfl (by decide : ¬ ((2 : Int32) < (0 : Int32))) (cap := 2) (by decide : ((2 : Int32)).toNatClampNeg ≤ 2) (by decide) (by decide) (by decide)
    obtain ⟨b52, g52⟩ : ∃ z, z = h0.size := ⟨_, rfl⟩
    rw [← g52] at A52 st52
    refine own_st st52 ?_
    have Z52 : n0 ≤ h52.size := Nat.le_trans Z0 E52.1
    have gnb52 : n0 ≤ b52 := Nat.le_trans Z0 (Nat.le_of_eq g52.symm)
    have gkb52 : h0.size ≤ b52 := Nat.le_trans K0.1 (Nat.le_of_eq g52.symm)
    have K52 : Keep h0 h52 [] := K0.ext E52
    have V52 : Arv Z h52 b52 k52 .byte (2 : Int32) [(.int (0 : Int32)), (.int (0 : Int32))] (.int (0 : Int32)) := (Arv.new A52 (by decide : ¬ ((2 : Int32) < (0 : Int32)))).pad (pad_rep [] (.int (0 : Int32)) 2)
    show own_Go _ _ _ _ (T52.setTop (mkF m 58 #[.val (.int u0), .val (.int u1), .val (.int u2), .val (.int u3), .val (.int (2 : Int32)), .val (.int (u1.toInt8.toInt32)), .val (.int (u2.toInt8.toInt32)), .val (.int (u3.toInt8.toInt32)), .unset, .unset] [(.ref b52)]))
    refine own_st (fun _ k => XS.dup X52.here hx rfl (hb hby at_58) rfl rfl k) ?_
    show own_Go _ _ _ _ (T52.setTop (mkF m 59 #[.val (.int u0), .val (.int u1), .val (.int u2), .val (.int u3), .val (.int (2 : Int32)), .val (.int (u1.toInt8.toInt32)), .val (.int (u2.toInt8.toInt32)), .val (.int (u3.toInt8.toInt32)), .unset, .unset] [(.ref b52), (.ref b52)]))
    refine own_st (fun _ k => XS.iconst X52.here hx rfl (hb hby at_59) k) ?_
    show own_Go _ _ _ _ (T52.setTop (mkF m 60 #[.val (.int u0), .val (.int u1), .val (.int u2), .val (.int u3), .val (.int (2 : Int32)), .val (.int (u1.toInt8.toInt32)), .val (.int (u2.toInt8.toInt32)), .val (.int (u3.toInt8.toInt32)), .unset, .unset] [(.int (0 : Int32)), (.ref b52), (.ref b52)]))
    refine own_st (fun _ k => XS.iload X52.here hx rfl (hb hby at_60) rfl k) ?_
    show own_Go _ _ _ _ (T52.setTop (mkF m 62 #[.val (.int u0), .val (.int u1), .val (.int u2), .val (.int u3), .val (.int (2 : Int32)), .val (.int (u1.toInt8.toInt32)), .val (.int (u2.toInt8.toInt32)), .val (.int (u3.toInt8.toInt32)), .unset, .unset] [(.int (u1.toInt8.toInt32)), (.int (0 : Int32)), (.ref b52), (.ref b52)]))
    obtain ⟨cl53, Ar53, Kd53, Sz53, Nn53, Hs53, Gs53⟩ := id V52
    obtain ⟨T53, h53, X53, e53, W53, st53⟩ := stB X52 hx hZ e52 Ar53 (j := (0 : Int32)) (inb_of Sz53 ⟨(by decide : ¬ ((0 : Int32) < (0 : Int32))), (by decide : (0 : Int32) < (2 : Int32))⟩) (g := (mkF m 62 #[.val (.int u0), .val (.int u1), .val (.int u2), .val (.int u3), .val (.int (2 : Int32)), .val (.int (u1.toInt8.toInt32)), .val (.int (u2.toInt8.toInt32)), .val (.int (u3.toInt8.toInt32)), .unset, .unset] [(.int (u1.toInt8.toInt32)), (.int (0 : Int32)), (.ref b52), (.ref b52)])) rfl rfl (hb hby at_62)
    refine own_st st53 ?_
    have V53 := Arv.set Ar53 Kd53 Sz53 Nn53 Hs53 Gs53 (fits_nar_byte _) W53 0 rfl (Nat.le_of_ble_eq_true rfl)
    have V53' : Arv Z h53 b52 k52 .byte (2 : Int32) [(.int (u1.toInt8.toInt32)), (.int (0 : Int32))] (.int (0 : Int32)) := by have q := V53; rw [own_narB] at q; exact q
    have Z53 : n0 ≤ h53.size := Nat.le_trans Z52 (Nat.le_of_eq W53.size.symm)
    have N53 := Fr.snoc X53 N0 gnb52
    have K53 : Keep h0 h53 [] := K52.wr W53 (Or.inr gkb52)
    show own_Go _ _ _ _ (T53.setTop (mkF m 63 #[.val (.int u0), .val (.int u1), .val (.int u2), .val (.int u3), .val (.int (2 : Int32)), .val (.int (u1.toInt8.toInt32)), .val (.int (u2.toInt8.toInt32)), .val (.int (u3.toInt8.toInt32)), .unset, .unset] [(.ref b52)]))
    refine own_st (fun _ k => XS.dup X53.here hx rfl (hb hby at_63) rfl rfl k) ?_
    show own_Go _ _ _ _ (T53.setTop (mkF m 64 #[.val (.int u0), .val (.int u1), .val (.int u2), .val (.int u3), .val (.int (2 : Int32)), .val (.int (u1.toInt8.toInt32)), .val (.int (u2.toInt8.toInt32)), .val (.int (u3.toInt8.toInt32)), .unset, .unset] [(.ref b52), (.ref b52)]))
    refine own_st (fun _ k => XS.iconst X53.here hx rfl (hb hby at_64) k) ?_
    show own_Go _ _ _ _ (T53.setTop (mkF m 65 #[.val (.int u0), .val (.int u1), .val (.int u2), .val (.int u3), .val (.int (2 : Int32)), .val (.int (u1.toInt8.toInt32)), .val (.int (u2.toInt8.toInt32)), .val (.int (u3.toInt8.toInt32)), .unset, .unset] [(.int (1 : Int32)), (.ref b52), (.ref b52)]))
    refine own_st (fun _ k => XS.iload X53.here hx rfl (hb hby at_65) rfl k) ?_
    show own_Go _ _ _ _ (T53.setTop (mkF m 67 #[.val (.int u0), .val (.int u1), .val (.int u2), .val (.int u3), .val (.int (2 : Int32)), .val (.int (u1.toInt8.toInt32)), .val (.int (u2.toInt8.toInt32)), .val (.int (u3.toInt8.toInt32)), .unset, .unset] [(.int (u2.toInt8.toInt32)), (.int (1 : Int32)), (.ref b52), (.ref b52)]))
    obtain ⟨cl54, Ar54, Kd54, Sz54, Nn54, Hs54, Gs54⟩ := id V53'
    obtain ⟨T54, h54, X54, e54, W54, st54⟩ := stB X53 hx hZ e53 Ar54 (j := (1 : Int32)) (inb_of Sz54 ⟨(by decide : ¬ ((1 : Int32) < (0 : Int32))), (by decide : (1 : Int32) < (2 : Int32))⟩) (g := (mkF m 67 #[.val (.int u0), .val (.int u1), .val (.int u2), .val (.int u3), .val (.int (2 : Int32)), .val (.int (u1.toInt8.toInt32)), .val (.int (u2.toInt8.toInt32)), .val (.int (u3.toInt8.toInt32)), .unset, .unset] [(.int (u2.toInt8.toInt32)), (.int (1 : Int32)), (.ref b52), (.ref b52)])) rfl rfl (hb hby at_67)
    refine own_st st54 ?_
    have V54 := Arv.set Ar54 Kd54 Sz54 Nn54 Hs54 Gs54 (fits_nar_byte _) W54 1 rfl (Nat.le_of_ble_eq_true rfl)
    have V54' : Arv Z h54 b52 k52 .byte (2 : Int32) [(.int (u1.toInt8.toInt32)), (.int (u2.toInt8.toInt32))] (.int (0 : Int32)) := by have q := V54; rw [own_narB] at q; exact q
    have Z54 : n0 ≤ h54.size := Nat.le_trans Z53 (Nat.le_of_eq W54.size.symm)
    have N54 := Fr.snoc X54 N53 gnb52
    have K54 : Keep h0 h54 [] := K53.wr W54 (Or.inr gkb52)
    show own_Go _ _ _ _ (T54.setTop (mkF m 68 #[.val (.int u0), .val (.int u1), .val (.int u2), .val (.int u3), .val (.int (2 : Int32)), .val (.int (u1.toInt8.toInt32)), .val (.int (u2.toInt8.toInt32)), .val (.int (u3.toInt8.toInt32)), .unset, .unset] [(.ref b52)]))
    refine own_st (fun _ k => XS.astore X54.here hx rfl (hb hby at_68) rfl rfl (l' := #[.val (.int u0), .val (.int u1), .val (.int u2), .val (.int u3), .val (.int (2 : Int32)), .val (.int (u1.toInt8.toInt32)), .val (.int (u2.toInt8.toInt32)), .val (.int (u3.toInt8.toInt32)), .val (.ref b52), .unset]) rfl k) ?_
    show own_Go _ _ _ _ (T54.setTop (mkF m 70 #[.val (.int u0), .val (.int u1), .val (.int u2), .val (.int u3), .val (.int (2 : Int32)), .val (.int (u1.toInt8.toInt32)), .val (.int (u2.toInt8.toInt32)), .val (.int (u3.toInt8.toInt32)), .val (.ref b52), .unset] []))
    refine own_st (fun _ k => XS.goto X54.here hx rfl (pc0 := 70) (pc' := 93) rfl (hb hby at_70) (by decide) (by decide) k) ?_
    show own_Go _ _ _ _ (T54.setTop (mkF m 93 #[.val (.int u0), .val (.int u1), .val (.int u2), .val (.int u3), .val (.int (2 : Int32)), .val (.int (u1.toInt8.toInt32)), .val (.int (u2.toInt8.toInt32)), .val (.int (u3.toInt8.toInt32)), .val (.ref b52), .unset] []))
    refine own_st (fun _ k => XS.aload X54.here hx rfl (hb hby at_93) rfl rfl k) ?_
    show own_Go _ _ _ _ (T54.setTop (mkF m 95 #[.val (.int u0), .val (.int u1), .val (.int u2), .val (.int u3), .val (.int (2 : Int32)), .val (.int (u1.toInt8.toInt32)), .val (.int (u2.toInt8.toInt32)), .val (.int (u3.toInt8.toInt32)), .val (.ref b52), .unset] [(.ref b52)]))
    obtain ⟨_, _, ⟨T55, L55, k55, n55⟩, -, X55, ⟨Lc55, hQ55, l55, y55, z55⟩, st55⟩ := Jvm.LawKit.callS X54 hx (y := (⟨"com/example/outlay/outlay/GitPath", "endBelow", "([B)[B"⟩ : MethodName)) hown (mvT hZ (hw _ (List.mem_of_getElem? (i := 1) rfl))) (mvT hZ (hw _ (List.mem_of_getElem? (i := 2) rfl))) (mvT hZ (hw _ (List.mem_of_getElem? (i := 3) rfl))) (mvT hZ (hw _ (List.mem_of_getElem? (i := 4) rfl))) (by decide) (backOf (W := 0) (rm1_2 l Z a0 hw [] b52 k52 (u1.toInt8.toInt32) (u2.toInt8.toInt32) h54 n0 Z54 V54') hZ (hw _ (List.mem_of_getElem? (i := 4) rfl)) (hw _ (List.mem_of_getElem? (i := 3) rfl)) (by decide) (by decide)) (g := (mkF m 95 #[.val (.int u0), .val (.int u1), .val (.int u2), .val (.int u3), .val (.int (2 : Int32)), .val (.int (u1.toInt8.toInt32)), .val (.int (u2.toInt8.toInt32)), .val (.int (u3.toInt8.toInt32)), .val (.ref b52), .unset] [(.ref b52)])) rfl (by rw [hml]; rfl) (argsL := [(.ref b52)]) (rest := []) (lenOf own_pd2 rfl) rfl (by show 2 * 0 + _ ≤ _; exact Nat.le_of_eq rfl) (hb hby at_95) (fun _ _ => ⟨rfl, e54, (by decide : 1 + 1 ≤ _), (by decide : 2 + 4 ≤ _)⟩)
    dsimp only [Pt.U, Pt.locs, Pt.cells, Pt.slots] at X55 l55 y55 z55 st55 hQ55
    subst l55 y55 z55
    obtain ⟨bq55, kq55, rfl, Nq55, Kq55, gq55, Vq55⟩ := hQ55
    have N55 := Fr.app N54 Nq55
    refine own_st st55 ?_
    have neb52_bq55 : b52 ≠ bq55 := Nat.ne_of_lt (Nat.lt_of_lt_of_le V54'.lt gq55)
    have gnbq55 : n0 ≤ bq55 := Nat.le_trans Z54 gq55
    have gkbq55 : h0.size ≤ bq55 := Nat.le_trans K54.1 gq55
    have z55_V_b52 := V54'.keep Kq55 nin0
    have Z55 : n0 ≤ T55.heap.size := Nat.le_trans Z54 Kq55.1
    have Kk55 : Keep h0 T55.heap [] := K54.trans Kq55 all0
    show own_Go _ _ _ _ (T55.setTop (mkF m 98 #[.val (.int u0), .val (.int u1), .val (.int u2), .val (.int u3), .val (.int (2 : Int32)), .val (.int (u1.toInt8.toInt32)), .val (.int (u2.toInt8.toInt32)), .val (.int (u3.toInt8.toInt32)), .val (.ref b52), .unset] [(.ref bq55)]))
    refine own_st (fun _ k => XS.astore X55.here hx rfl (hb hby at_98) rfl rfl (l' := #[.val (.int u0), .val (.int u1), .val (.int u2), .val (.int u3), .val (.int (2 : Int32)), .val (.int (u1.toInt8.toInt32)), .val (.int (u2.toInt8.toInt32)), .val (.int (u3.toInt8.toInt32)), .val (.ref b52), .val (.ref bq55)]) rfl k) ?_
    show own_Go _ _ _ _ (T55.setTop (mkF m 100 #[.val (.int u0), .val (.int u1), .val (.int u2), .val (.int u3), .val (.int (2 : Int32)), .val (.int (u1.toInt8.toInt32)), .val (.int (u2.toInt8.toInt32)), .val (.int (u3.toInt8.toInt32)), .val (.ref b52), .val (.ref bq55)] []))
    refine own_st (fun _ k => XS.aload X55.here hx rfl (hb hby at_100) rfl rfl k) ?_
    show own_Go _ _ _ _ (T55.setTop (mkF m 102 #[.val (.int u0), .val (.int u1), .val (.int u2), .val (.int u3), .val (.int (2 : Int32)), .val (.int (u1.toInt8.toInt32)), .val (.int (u2.toInt8.toInt32)), .val (.int (u3.toInt8.toInt32)), .val (.ref b52), .val (.ref bq55)] [(.ref bq55)]))
    refine own_st (fun _ k => XS.ifnullNo X55.here hx rfl (hb hby at_102) rfl k) ?_
    show own_Go _ _ _ _ (T55.setTop (mkF m 105 #[.val (.int u0), .val (.int u1), .val (.int u2), .val (.int u3), .val (.int (2 : Int32)), .val (.int (u1.toInt8.toInt32)), .val (.int (u2.toInt8.toInt32)), .val (.int (u3.toInt8.toInt32)), .val (.ref b52), .val (.ref bq55)] []))
    refine own_st (fun _ k => XS.aload X55.here hx rfl (hb hby at_105) rfl rfl k) ?_
    show own_Go _ _ _ _ (T55.setTop (mkF m 107 #[.val (.int u0), .val (.int u1), .val (.int u2), .val (.int u3), .val (.int (2 : Int32)), .val (.int (u1.toInt8.toInt32)), .val (.int (u2.toInt8.toInt32)), .val (.int (u3.toInt8.toInt32)), .val (.ref b52), .val (.ref bq55)] [(.ref bq55)]))
    refine own_st (fun _ k => XS.aload X55.here hx rfl (hb hby at_107) rfl rfl k) ?_
    show own_Go _ _ _ _ (T55.setTop (mkF m 109 #[.val (.int u0), .val (.int u1), .val (.int u2), .val (.int u3), .val (.int (2 : Int32)), .val (.int (u1.toInt8.toInt32)), .val (.int (u2.toInt8.toInt32)), .val (.int (u3.toInt8.toInt32)), .val (.ref b52), .val (.ref bq55)] [(.ref b52), (.ref bq55)]))
    refine own_st (fun _ k => Jvm.RoadKit.acmp (g := (mkF m 109 #[.val (.int u0), .val (.int u1), .val (.int u2), .val (.int u3), .val (.int (2 : Int32)), .val (.int (u1.toInt8.toInt32)), .val (.int (u2.toInt8.toInt32)), .val (.int (u3.toInt8.toInt32)), .val (.ref b52), .val (.ref bq55)] [(.ref b52), (.ref bq55)])) X55 hx rfl rfl rfl (pc0 := 109) (pc' := 112) (same := false) rfl (hb hby at_109) rfl (decide_eq_false fun q => (Ne.symm neb52_bq55) (Value.ref.inj q)) (by decide) (by decide) k) ?_
    show own_Go _ _ _ _ (T55.setTop (mkF m 112 #[.val (.int u0), .val (.int u1), .val (.int u2), .val (.int u3), .val (.int (2 : Int32)), .val (.int (u1.toInt8.toInt32)), .val (.int (u2.toInt8.toInt32)), .val (.int (u3.toInt8.toInt32)), .val (.ref b52), .val (.ref bq55)] []))
    refine own_st (fun _ k => XS.aload X55.here hx rfl (hb hby at_112) rfl rfl k) ?_
    show own_Go _ _ _ _ (T55.setTop (mkF m 114 #[.val (.int u0), .val (.int u1), .val (.int u2), .val (.int u3), .val (.int (2 : Int32)), .val (.int (u1.toInt8.toInt32)), .val (.int (u2.toInt8.toInt32)), .val (.int (u3.toInt8.toInt32)), .val (.ref b52), .val (.ref bq55)] [(.ref b52)]))
    obtain ⟨cl56, Ar56, -, Sz56, Nn56, -, -⟩ := id z55_V_b52
    refine own_st (X55.arraylength hx Ar56.1 (State.isArrayOf_alike hZ.alike Ar56.2.1) (g := (mkF m 114 #[.val (.int u0), .val (.int u1), .val (.int u2), .val (.int u3), .val (.int (2 : Int32)), .val (.int (u1.toInt8.toInt32)), .val (.int (u2.toInt8.toInt32)), .val (.int (u3.toInt8.toInt32)), .val (.ref b52), .val (.ref bq55)] [(.ref b52)])) rfl rfl (hb hby at_114)) ?_
    rw [len_of Sz56 Nn56]
    show own_Go _ _ _ _ (T55.setTop (mkF m 115 #[.val (.int u0), .val (.int u1), .val (.int u2), .val (.int u3), .val (.int (2 : Int32)), .val (.int (u1.toInt8.toInt32)), .val (.int (u2.toInt8.toInt32)), .val (.int (u3.toInt8.toInt32)), .val (.ref b52), .val (.ref bq55)] [(.int (2 : Int32))]))
    refine own_st (fun _ k => XS.iload X55.here hx rfl (hb hby at_115) rfl k) ?_
    show own_Go _ _ _ _ (T55.setTop (mkF m 117 #[.val (.int u0), .val (.int u1), .val (.int u2), .val (.int u3), .val (.int (2 : Int32)), .val (.int (u1.toInt8.toInt32)), .val (.int (u2.toInt8.toInt32)), .val (.int (u3.toInt8.toInt32)), .val (.ref b52), .val (.ref bq55)] [(.int (2 : Int32)), (.int (2 : Int32))]))
    refine own_st (fun _ k => XS.icmpNo X55.here hx rfl (hb hby at_117) rfl (teq (by decide : ((2 : Int32) = (2 : Int32)))).2 k) ?_
    show own_Go _ _ _ _ (T55.setTop (mkF m 120 #[.val (.int u0), .val (.int u1), .val (.int u2), .val (.int u3), .val (.int (2 : Int32)), .val (.int (u1.toInt8.toInt32)), .val (.int (u2.toInt8.toInt32)), .val (.int (u3.toInt8.toInt32)), .val (.ref b52), .val (.ref bq55)] []))
    refine own_st (fun _ k => XS.aload X55.here hx rfl (hb hby at_120) rfl rfl k) ?_
    show own_Go _ _ _ _ (T55.setTop (mkF m 122 #[.val (.int u0), .val (.int u1), .val (.int u2), .val (.int u3), .val (.int (2 : Int32)), .val (.int (u1.toInt8.toInt32)), .val (.int (u2.toInt8.toInt32)), .val (.int (u3.toInt8.toInt32)), .val (.ref b52), .val (.ref bq55)] [(.ref bq55)]))
    obtain ⟨cl57, Ar57, -, Sz57, Nn57, -, -⟩ := id Vq55
    refine own_st (X55.arraylength hx Ar57.1 (State.isArrayOf_alike hZ.alike Ar57.2.1) (g := (mkF m 122 #[.val (.int u0), .val (.int u1), .val (.int u2), .val (.int u3), .val (.int (2 : Int32)), .val (.int (u1.toInt8.toInt32)), .val (.int (u2.toInt8.toInt32)), .val (.int (u3.toInt8.toInt32)), .val (.ref b52), .val (.ref bq55)] [(.ref bq55)])) rfl rfl (hb hby at_122)) ?_
    rw [len_of Sz57 Nn57]
    show own_Go _ _ _ _ (T55.setTop (mkF m 123 #[.val (.int u0), .val (.int u1), .val (.int u2), .val (.int u3), .val (.int (2 : Int32)), .val (.int (u1.toInt8.toInt32)), .val (.int (u2.toInt8.toInt32)), .val (.int (u3.toInt8.toInt32)), .val (.ref b52), .val (.ref bq55)] [(.int (3 : Int32))]))
    refine own_st (fun _ k => XS.iload X55.here hx rfl (hb hby at_123) rfl k) ?_
    show own_Go _ _ _ _ (T55.setTop (mkF m 125 #[.val (.int u0), .val (.int u1), .val (.int u2), .val (.int u3), .val (.int (2 : Int32)), .val (.int (u1.toInt8.toInt32)), .val (.int (u2.toInt8.toInt32)), .val (.int (u3.toInt8.toInt32)), .val (.ref b52), .val (.ref bq55)] [(.int (2 : Int32)), (.int (3 : Int32))]))
    refine own_st (fun _ k => XS.iconst X55.here hx rfl (hb hby at_125) k) ?_
    show own_Go _ _ _ _ (T55.setTop (mkF m 126 #[.val (.int u0), .val (.int u1), .val (.int u2), .val (.int u3), .val (.int (2 : Int32)), .val (.int (u1.toInt8.toInt32)), .val (.int (u2.toInt8.toInt32)), .val (.int (u3.toInt8.toInt32)), .val (.ref b52), .val (.ref bq55)] [(.int (1 : Int32)), (.int (2 : Int32)), (.int (3 : Int32))]))
    refine own_st (fun _ k => XS.iadd X55.here hx rfl (hb hby at_126) rfl k) ?_
    show own_Go _ _ _ _ (T55.setTop (mkF m 127 #[.val (.int u0), .val (.int u1), .val (.int u2), .val (.int u3), .val (.int (2 : Int32)), .val (.int (u1.toInt8.toInt32)), .val (.int (u2.toInt8.toInt32)), .val (.int (u3.toInt8.toInt32)), .val (.ref b52), .val (.ref bq55)] [(.int (3 : Int32)), (.int (3 : Int32))]))
    refine own_st (fun _ k => XS.icmpYes X55.here hx rfl (pc0 := 127) (pc' := 132) rfl (hb hby at_127) rfl (teq (by decide : ((3 : Int32) = (3 : Int32)))).1 (by decide) (by decide) k) ?_
    show own_Go _ _ _ _ (T55.setTop (mkF m 132 #[.val (.int u0), .val (.int u1), .val (.int u2), .val (.int u3), .val (.int (2 : Int32)), .val (.int (u1.toInt8.toInt32)), .val (.int (u2.toInt8.toInt32)), .val (.int (u3.toInt8.toInt32)), .val (.ref b52), .val (.ref bq55)] []))
    refine own_st (fun _ k => XS.aload X55.here hx rfl (hb hby at_132) rfl rfl k) ?_
    show own_Go _ _ _ _ (T55.setTop (mkF m 134 #[.val (.int u0), .val (.int u1), .val (.int u2), .val (.int u3), .val (.int (2 : Int32)), .val (.int (u1.toInt8.toInt32)), .val (.int (u2.toInt8.toInt32)), .val (.int (u3.toInt8.toInt32)), .val (.ref b52), .val (.ref bq55)] [(.ref bq55)]))
    refine own_st (fun _ k => XS.iload X55.here hx rfl (hb hby at_134) rfl k) ?_
    show own_Go _ _ _ _ (T55.setTop (mkF m 136 #[.val (.int u0), .val (.int u1), .val (.int u2), .val (.int u3), .val (.int (2 : Int32)), .val (.int (u1.toInt8.toInt32)), .val (.int (u2.toInt8.toInt32)), .val (.int (u3.toInt8.toInt32)), .val (.ref b52), .val (.ref bq55)] [(.int (2 : Int32)), (.ref bq55)]))
    obtain ⟨cl58, Ar58, -, Sz58, Nn58, Hs58, -⟩ := id Vq55
    have hin58 : ¬ ((2 : Int32) < 0 ∨ cl58.slots.size ≤ ((2 : Int32)).toNatClampNeg) := inb_of Sz58 ⟨(by decide : ¬ ((2 : Int32) < (0 : Int32))), (by decide : (2 : Int32) < (3 : Int32))⟩
    have hat58 : cl58.slots[((2 : Int32)).toNatClampNeg]? = some (.int (48 : Int32)) := Hs58.at hin58 rfl
    refine own_st (X55.baloadBytes hx (j := (2 : Int32)) (v := (.int (48 : Int32))) Ar58.1 (State.isArrayOf_alike hZ.alike Ar58.2.1) Ar58.2.2 hin58 hat58 (g := (mkF m 136 #[.val (.int u0), .val (.int u1), .val (.int u2), .val (.int u3), .val (.int (2 : Int32)), .val (.int (u1.toInt8.toInt32)), .val (.int (u2.toInt8.toInt32)), .val (.int (u3.toInt8.toInt32)), .val (.ref b52), .val (.ref bq55)] [(.int (2 : Int32)), (.ref bq55)])) rfl rfl (hb hby at_136)) ?_
    show own_Go _ _ _ _ (T55.setTop (mkF m 137 #[.val (.int u0), .val (.int u1), .val (.int u2), .val (.int u3), .val (.int (2 : Int32)), .val (.int (u1.toInt8.toInt32)), .val (.int (u2.toInt8.toInt32)), .val (.int (u3.toInt8.toInt32)), .val (.ref b52), .val (.ref bq55)] [(.int (48 : Int32))]))
    refine own_st (fun _ k => XS.bipush X55.here hx rfl (hb hby at_137) k) ?_
    show own_Go _ _ _ _ (T55.setTop (mkF m 139 #[.val (.int u0), .val (.int u1), .val (.int u2), .val (.int u3), .val (.int (2 : Int32)), .val (.int (u1.toInt8.toInt32)), .val (.int (u2.toInt8.toInt32)), .val (.int (u3.toInt8.toInt32)), .val (.ref b52), .val (.ref bq55)] [(.int (48 : Int32)), (.int (48 : Int32))]))
    refine own_st (fun _ k => XS.icmpYes X55.here hx rfl (pc0 := 139) (pc' := 144) rfl (hb hby at_139) rfl (teq (by decide : ((48 : Int32) = (48 : Int32)))).1 (by decide) (by decide) k) ?_
    show own_Go _ _ _ _ (T55.setTop (mkF m 144 #[.val (.int u0), .val (.int u1), .val (.int u2), .val (.int u3), .val (.int (2 : Int32)), .val (.int (u1.toInt8.toInt32)), .val (.int (u2.toInt8.toInt32)), .val (.int (u3.toInt8.toInt32)), .val (.ref b52), .val (.ref bq55)] []))
    refine own_st (fun _ k => XS.iload X55.here hx rfl (hb hby at_144) rfl k) ?_
    show own_Go _ _ _ _ (T55.setTop (mkF m 146 #[.val (.int u0), .val (.int u1), .val (.int u2), .val (.int u3), .val (.int (2 : Int32)), .val (.int (u1.toInt8.toInt32)), .val (.int (u2.toInt8.toInt32)), .val (.int (u3.toInt8.toInt32)), .val (.ref b52), .val (.ref bq55)] [(.int (2 : Int32))]))
    refine own_st (fun _ k => XS.ifNo X55.here hx rfl (hb hby at_146) rfl ((if0 _ _).trans (tlt (by decide : ((0 : Int32) < (2 : Int32)))).2.2.2) k) ?_
    show own_Go _ _ _ _ (T55.setTop (mkF m 149 #[.val (.int u0), .val (.int u1), .val (.int u2), .val (.int u3), .val (.int (2 : Int32)), .val (.int (u1.toInt8.toInt32)), .val (.int (u2.toInt8.toInt32)), .val (.int (u3.toInt8.toInt32)), .val (.ref b52), .val (.ref bq55)] []))
    refine own_st (fun _ k => XS.aload X55.here hx rfl (hb hby at_149) rfl rfl k) ?_
    show own_Go _ _ _ _ (T55.setTop (mkF m 151 #[.val (.int u0), .val (.int u1), .val (.int u2), .val (.int u3), .val (.int (2 : Int32)), .val (.int (u1.toInt8.toInt32)), .val (.int (u2.toInt8.toInt32)), .val (.int (u3.toInt8.toInt32)), .val (.ref b52), .val (.ref bq55)] [(.ref bq55)]))
    refine own_st (fun _ k => XS.iconst X55.here hx rfl (hb hby at_151) k) ?_
    show own_Go _ _ _ _ (T55.setTop (mkF m 152 #[.val (.int u0), .val (.int u1), .val (.int u2), .val (.int u3), .val (.int (2 : Int32)), .val (.int (u1.toInt8.toInt32)), .val (.int (u2.toInt8.toInt32)), .val (.int (u3.toInt8.toInt32)), .val (.ref b52), .val (.ref bq55)] [(.int (0 : Int32)), (.ref bq55)]))
    obtain ⟨cl59, Ar59, -, Sz59, Nn59, Hs59, -⟩ := id Vq55
    have hin59 : ¬ ((0 : Int32) < 0 ∨ cl59.slots.size ≤ ((0 : Int32)).toNatClampNeg) := inb_of Sz59 ⟨(by decide : ¬ ((0 : Int32) < (0 : Int32))), (by decide : (0 : Int32) < (3 : Int32))⟩
    have hat59 : cl59.slots[((0 : Int32)).toNatClampNeg]? = some (.int (u1.toInt8.toInt32)) := Hs59.at hin59 rfl
    refine own_st (X55.baloadBytes hx (j := (0 : Int32)) (v := (.int (u1.toInt8.toInt32))) Ar59.1 (State.isArrayOf_alike hZ.alike Ar59.2.1) Ar59.2.2 hin59 hat59 (g := (mkF m 152 #[.val (.int u0), .val (.int u1), .val (.int u2), .val (.int u3), .val (.int (2 : Int32)), .val (.int (u1.toInt8.toInt32)), .val (.int (u2.toInt8.toInt32)), .val (.int (u3.toInt8.toInt32)), .val (.ref b52), .val (.ref bq55)] [(.int (0 : Int32)), (.ref bq55)])) rfl rfl (hb hby at_152)) ?_
    show own_Go _ _ _ _ (T55.setTop (mkF m 153 #[.val (.int u0), .val (.int u1), .val (.int u2), .val (.int u3), .val (.int (2 : Int32)), .val (.int (u1.toInt8.toInt32)), .val (.int (u2.toInt8.toInt32)), .val (.int (u3.toInt8.toInt32)), .val (.ref b52), .val (.ref bq55)] [(.int (u1.toInt8.toInt32))]))
    refine own_st (fun _ k => XS.iload X55.here hx rfl (hb hby at_153) rfl k) ?_
    show own_Go _ _ _ _ (T55.setTop (mkF m 155 #[.val (.int u0), .val (.int u1), .val (.int u2), .val (.int u3), .val (.int (2 : Int32)), .val (.int (u1.toInt8.toInt32)), .val (.int (u2.toInt8.toInt32)), .val (.int (u3.toInt8.toInt32)), .val (.ref b52), .val (.ref bq55)] [(.int (u1.toInt8.toInt32)), (.int (u1.toInt8.toInt32))]))
    refine own_st (fun _ k => XS.icmpNo X55.here hx rfl (hb hby at_155) rfl (teq (rfl : (u1.toInt8.toInt32) = (u1.toInt8.toInt32))).2 k) ?_
    show own_Go _ _ _ _ (T55.setTop (mkF m 158 #[.val (.int u0), .val (.int u1), .val (.int u2), .val (.int u3), .val (.int (2 : Int32)), .val (.int (u1.toInt8.toInt32)), .val (.int (u2.toInt8.toInt32)), .val (.int (u3.toInt8.toInt32)), .val (.ref b52), .val (.ref bq55)] []))
    refine own_st (fun _ k => XS.aload X55.here hx rfl (hb hby at_158) rfl rfl k) ?_
    show own_Go _ _ _ _ (T55.setTop (mkF m 160 #[.val (.int u0), .val (.int u1), .val (.int u2), .val (.int u3), .val (.int (2 : Int32)), .val (.int (u1.toInt8.toInt32)), .val (.int (u2.toInt8.toInt32)), .val (.int (u3.toInt8.toInt32)), .val (.ref b52), .val (.ref bq55)] [(.ref b52)]))
    refine own_st (fun _ k => XS.iconst X55.here hx rfl (hb hby at_160) k) ?_
    show own_Go _ _ _ _ (T55.setTop (mkF m 161 #[.val (.int u0), .val (.int u1), .val (.int u2), .val (.int u3), .val (.int (2 : Int32)), .val (.int (u1.toInt8.toInt32)), .val (.int (u2.toInt8.toInt32)), .val (.int (u3.toInt8.toInt32)), .val (.ref b52), .val (.ref bq55)] [(.int (0 : Int32)), (.ref b52)]))
    obtain ⟨cl60, Ar60, -, Sz60, Nn60, Hs60, -⟩ := id z55_V_b52
    have hin60 : ¬ ((0 : Int32) < 0 ∨ cl60.slots.size ≤ ((0 : Int32)).toNatClampNeg) := inb_of Sz60 ⟨(by decide : ¬ ((0 : Int32) < (0 : Int32))), (by decide : (0 : Int32) < (2 : Int32))⟩
    have hat60 : cl60.slots[((0 : Int32)).toNatClampNeg]? = some (.int (u1.toInt8.toInt32)) := Hs60.at hin60 rfl
    refine own_st (X55.baloadBytes hx (j := (0 : Int32)) (v := (.int (u1.toInt8.toInt32))) Ar60.1 (State.isArrayOf_alike hZ.alike Ar60.2.1) Ar60.2.2 hin60 hat60 (g := (mkF m 161 #[.val (.int u0), .val (.int u1), .val (.int u2), .val (.int u3), .val (.int (2 : Int32)), .val (.int (u1.toInt8.toInt32)), .val (.int (u2.toInt8.toInt32)), .val (.int (u3.toInt8.toInt32)), .val (.ref b52), .val (.ref bq55)] [(.int (0 : Int32)), (.ref b52)])) rfl rfl (hb hby at_161)) ?_
    show own_Go _ _ _ _ (T55.setTop (mkF m 162 #[.val (.int u0), .val (.int u1), .val (.int u2), .val (.int u3), .val (.int (2 : Int32)), .val (.int (u1.toInt8.toInt32)), .val (.int (u2.toInt8.toInt32)), .val (.int (u3.toInt8.toInt32)), .val (.ref b52), .val (.ref bq55)] [(.int (u1.toInt8.toInt32))]))
    refine own_st (fun _ k => XS.iload X55.here hx rfl (hb hby at_162) rfl k) ?_
    show own_Go _ _ _ _ (T55.setTop (mkF m 164 #[.val (.int u0), .val (.int u1), .val (.int u2), .val (.int u3), .val (.int (2 : Int32)), .val (.int (u1.toInt8.toInt32)), .val (.int (u2.toInt8.toInt32)), .val (.int (u3.toInt8.toInt32)), .val (.ref b52), .val (.ref bq55)] [(.int (u1.toInt8.toInt32)), (.int (u1.toInt8.toInt32))]))
    refine own_st (fun _ k => XS.icmpYes X55.here hx rfl (pc0 := 164) (pc' := 169) rfl (hb hby at_164) rfl (teq (rfl : (u1.toInt8.toInt32) = (u1.toInt8.toInt32))).1 (by decide) (by decide) k) ?_
    show own_Go _ _ _ _ (T55.setTop (mkF m 169 #[.val (.int u0), .val (.int u1), .val (.int u2), .val (.int u3), .val (.int (2 : Int32)), .val (.int (u1.toInt8.toInt32)), .val (.int (u2.toInt8.toInt32)), .val (.int (u3.toInt8.toInt32)), .val (.ref b52), .val (.ref bq55)] []))
    refine own_st (fun _ k => XS.iload X55.here hx rfl (hb hby at_169) rfl k) ?_
    show own_Go _ _ _ _ (T55.setTop (mkF m 171 #[.val (.int u0), .val (.int u1), .val (.int u2), .val (.int u3), .val (.int (2 : Int32)), .val (.int (u1.toInt8.toInt32)), .val (.int (u2.toInt8.toInt32)), .val (.int (u3.toInt8.toInt32)), .val (.ref b52), .val (.ref bq55)] [(.int (2 : Int32))]))
    refine own_st (fun _ k => XS.iconst X55.here hx rfl (hb hby at_171) k) ?_
    show own_Go _ _ _ _ (T55.setTop (mkF m 172 #[.val (.int u0), .val (.int u1), .val (.int u2), .val (.int u3), .val (.int (2 : Int32)), .val (.int (u1.toInt8.toInt32)), .val (.int (u2.toInt8.toInt32)), .val (.int (u3.toInt8.toInt32)), .val (.ref b52), .val (.ref bq55)] [(.int (1 : Int32)), (.int (2 : Int32))]))
    refine own_st (fun _ k => XS.icmpNo X55.here hx rfl (hb hby at_172) rfl (tlt (by decide : ((1 : Int32) < (2 : Int32)))).2.2.2 k) ?_
    show own_Go _ _ _ _ (T55.setTop (mkF m 175 #[.val (.int u0), .val (.int u1), .val (.int u2), .val (.int u3), .val (.int (2 : Int32)), .val (.int (u1.toInt8.toInt32)), .val (.int (u2.toInt8.toInt32)), .val (.int (u3.toInt8.toInt32)), .val (.ref b52), .val (.ref bq55)] []))
    refine own_st (fun _ k => XS.aload X55.here hx rfl (hb hby at_175) rfl rfl k) ?_
    show own_Go _ _ _ _ (T55.setTop (mkF m 177 #[.val (.int u0), .val (.int u1), .val (.int u2), .val (.int u3), .val (.int (2 : Int32)), .val (.int (u1.toInt8.toInt32)), .val (.int (u2.toInt8.toInt32)), .val (.int (u3.toInt8.toInt32)), .val (.ref b52), .val (.ref bq55)] [(.ref bq55)]))
    refine own_st (fun _ k => XS.iconst X55.here hx rfl (hb hby at_177) k) ?_
    show own_Go _ _ _ _ (T55.setTop (mkF m 178 #[.val (.int u0), .val (.int u1), .val (.int u2), .val (.int u3), .val (.int (2 : Int32)), .val (.int (u1.toInt8.toInt32)), .val (.int (u2.toInt8.toInt32)), .val (.int (u3.toInt8.toInt32)), .val (.ref b52), .val (.ref bq55)] [(.int (1 : Int32)), (.ref bq55)]))
    obtain ⟨cl61, Ar61, -, Sz61, Nn61, Hs61, -⟩ := id Vq55
    have hin61 : ¬ ((1 : Int32) < 0 ∨ cl61.slots.size ≤ ((1 : Int32)).toNatClampNeg) := inb_of Sz61 ⟨(by decide : ¬ ((1 : Int32) < (0 : Int32))), (by decide : (1 : Int32) < (3 : Int32))⟩
    have hat61 : cl61.slots[((1 : Int32)).toNatClampNeg]? = some (.int (u2.toInt8.toInt32)) := Hs61.at hin61 rfl
    refine own_st (X55.baloadBytes hx (j := (1 : Int32)) (v := (.int (u2.toInt8.toInt32))) Ar61.1 (State.isArrayOf_alike hZ.alike Ar61.2.1) Ar61.2.2 hin61 hat61 (g := (mkF m 178 #[.val (.int u0), .val (.int u1), .val (.int u2), .val (.int u3), .val (.int (2 : Int32)), .val (.int (u1.toInt8.toInt32)), .val (.int (u2.toInt8.toInt32)), .val (.int (u3.toInt8.toInt32)), .val (.ref b52), .val (.ref bq55)] [(.int (1 : Int32)), (.ref bq55)])) rfl rfl (hb hby at_178)) ?_
    show own_Go _ _ _ _ (T55.setTop (mkF m 179 #[.val (.int u0), .val (.int u1), .val (.int u2), .val (.int u3), .val (.int (2 : Int32)), .val (.int (u1.toInt8.toInt32)), .val (.int (u2.toInt8.toInt32)), .val (.int (u3.toInt8.toInt32)), .val (.ref b52), .val (.ref bq55)] [(.int (u2.toInt8.toInt32))]))
    refine own_st (fun _ k => XS.iload X55.here hx rfl (hb hby at_179) rfl k) ?_
    show own_Go _ _ _ _ (T55.setTop (mkF m 181 #[.val (.int u0), .val (.int u1), .val (.int u2), .val (.int u3), .val (.int (2 : Int32)), .val (.int (u1.toInt8.toInt32)), .val (.int (u2.toInt8.toInt32)), .val (.int (u3.toInt8.toInt32)), .val (.ref b52), .val (.ref bq55)] [(.int (u2.toInt8.toInt32)), (.int (u2.toInt8.toInt32))]))
    refine own_st (fun _ k => XS.icmpNo X55.here hx rfl (hb hby at_181) rfl (teq (rfl : (u2.toInt8.toInt32) = (u2.toInt8.toInt32))).2 k) ?_
    show own_Go _ _ _ _ (T55.setTop (mkF m 184 #[.val (.int u0), .val (.int u1), .val (.int u2), .val (.int u3), .val (.int (2 : Int32)), .val (.int (u1.toInt8.toInt32)), .val (.int (u2.toInt8.toInt32)), .val (.int (u3.toInt8.toInt32)), .val (.ref b52), .val (.ref bq55)] []))
    refine own_st (fun _ k => XS.aload X55.here hx rfl (hb hby at_184) rfl rfl k) ?_
    show own_Go _ _ _ _ (T55.setTop (mkF m 186 #[.val (.int u0), .val (.int u1), .val (.int u2), .val (.int u3), .val (.int (2 : Int32)), .val (.int (u1.toInt8.toInt32)), .val (.int (u2.toInt8.toInt32)), .val (.int (u3.toInt8.toInt32)), .val (.ref b52), .val (.ref bq55)] [(.ref b52)]))
    refine own_st (fun _ k => XS.iconst X55.here hx rfl (hb hby at_186) k) ?_
    show own_Go _ _ _ _ (T55.setTop (mkF m 187 #[.val (.int u0), .val (.int u1), .val (.int u2), .val (.int u3), .val (.int (2 : Int32)), .val (.int (u1.toInt8.toInt32)), .val (.int (u2.toInt8.toInt32)), .val (.int (u3.toInt8.toInt32)), .val (.ref b52), .val (.ref bq55)] [(.int (1 : Int32)), (.ref b52)]))
    obtain ⟨cl62, Ar62, -, Sz62, Nn62, Hs62, -⟩ := id z55_V_b52
    have hin62 : ¬ ((1 : Int32) < 0 ∨ cl62.slots.size ≤ ((1 : Int32)).toNatClampNeg) := inb_of Sz62 ⟨(by decide : ¬ ((1 : Int32) < (0 : Int32))), (by decide : (1 : Int32) < (2 : Int32))⟩
    have hat62 : cl62.slots[((1 : Int32)).toNatClampNeg]? = some (.int (u2.toInt8.toInt32)) := Hs62.at hin62 rfl
    refine own_st (X55.baloadBytes hx (j := (1 : Int32)) (v := (.int (u2.toInt8.toInt32))) Ar62.1 (State.isArrayOf_alike hZ.alike Ar62.2.1) Ar62.2.2 hin62 hat62 (g := (mkF m 187 #[.val (.int u0), .val (.int u1), .val (.int u2), .val (.int u3), .val (.int (2 : Int32)), .val (.int (u1.toInt8.toInt32)), .val (.int (u2.toInt8.toInt32)), .val (.int (u3.toInt8.toInt32)), .val (.ref b52), .val (.ref bq55)] [(.int (1 : Int32)), (.ref b52)])) rfl rfl (hb hby at_187)) ?_
    show own_Go _ _ _ _ (T55.setTop (mkF m 188 #[.val (.int u0), .val (.int u1), .val (.int u2), .val (.int u3), .val (.int (2 : Int32)), .val (.int (u1.toInt8.toInt32)), .val (.int (u2.toInt8.toInt32)), .val (.int (u3.toInt8.toInt32)), .val (.ref b52), .val (.ref bq55)] [(.int (u2.toInt8.toInt32))]))
    refine own_st (fun _ k => XS.iload X55.here hx rfl (hb hby at_188) rfl k) ?_
    show own_Go _ _ _ _ (T55.setTop (mkF m 190 #[.val (.int u0), .val (.int u1), .val (.int u2), .val (.int u3), .val (.int (2 : Int32)), .val (.int (u1.toInt8.toInt32)), .val (.int (u2.toInt8.toInt32)), .val (.int (u3.toInt8.toInt32)), .val (.ref b52), .val (.ref bq55)] [(.int (u2.toInt8.toInt32)), (.int (u2.toInt8.toInt32))]))
    refine own_st (fun _ k => XS.icmpYes X55.here hx rfl (pc0 := 190) (pc' := 195) rfl (hb hby at_190) rfl (teq (rfl : (u2.toInt8.toInt32) = (u2.toInt8.toInt32))).1 (by decide) (by decide) k) ?_
    show own_Go _ _ _ _ (T55.setTop (mkF m 195 #[.val (.int u0), .val (.int u1), .val (.int u2), .val (.int u3), .val (.int (2 : Int32)), .val (.int (u1.toInt8.toInt32)), .val (.int (u2.toInt8.toInt32)), .val (.int (u3.toInt8.toInt32)), .val (.ref b52), .val (.ref bq55)] []))
    refine own_st (fun _ k => XS.iload X55.here hx rfl (hb hby at_195) rfl k) ?_
    show own_Go _ _ _ _ (T55.setTop (mkF m 197 #[.val (.int u0), .val (.int u1), .val (.int u2), .val (.int u3), .val (.int (2 : Int32)), .val (.int (u1.toInt8.toInt32)), .val (.int (u2.toInt8.toInt32)), .val (.int (u3.toInt8.toInt32)), .val (.ref b52), .val (.ref bq55)] [(.int (2 : Int32))]))
    refine own_st (fun _ k => XS.iconst X55.here hx rfl (hb hby at_197) k) ?_
    show own_Go _ _ _ _ (T55.setTop (mkF m 198 #[.val (.int u0), .val (.int u1), .val (.int u2), .val (.int u3), .val (.int (2 : Int32)), .val (.int (u1.toInt8.toInt32)), .val (.int (u2.toInt8.toInt32)), .val (.int (u3.toInt8.toInt32)), .val (.ref b52), .val (.ref bq55)] [(.int (2 : Int32)), (.int (2 : Int32))]))
    refine own_st (fun _ k => XS.icmpYes X55.here hx rfl (pc0 := 198) (pc' := 221) rfl (hb hby at_198) rfl (flt (by decide : ¬ ((2 : Int32) < (2 : Int32)))).2.2.2 (by decide) (by decide) k) ?_
    show own_Go _ _ _ _ (T55.setTop (mkF m 221 #[.val (.int u0), .val (.int u1), .val (.int u2), .val (.int u3), .val (.int (2 : Int32)), .val (.int (u1.toInt8.toInt32)), .val (.int (u2.toInt8.toInt32)), .val (.int (u3.toInt8.toInt32)), .val (.ref b52), .val (.ref bq55)] []))
    refine own_st (fun _ k => XS.iconst X55.here hx rfl (hb hby at_221) k) ?_
    show own_Go _ _ _ _ (T55.setTop (mkF m 222 #[.val (.int u0), .val (.int u1), .val (.int u2), .val (.int u3), .val (.int (2 : Int32)), .val (.int (u1.toInt8.toInt32)), .val (.int (u2.toInt8.toInt32)), .val (.int (u3.toInt8.toInt32)), .val (.ref b52), .val (.ref bq55)] [(.int (1 : Int32))]))
    obtain ⟨fs, hr, hrun, hended, hW, hsame⟩ := X55.leave (v := some (.int (1 : Int32))) (fun h => by rw [Bd.returns] at h; cases h)
    refine own_out (retN X55 hx (t := .boolean) Bd.returns (by simp) (hb hby at_222) hr) ⟨hrun, hended, _, _, rfl, ?_, ⟨_, rfl⟩, hW, hsame.mono (by decide) (by decide)⟩
    show Q0 Z u0 u1 u2 u3 h0 n0 _ T55.heap _
    exact ⟨rfl, N55⟩
  · skip
    rw [hs38]
    show own_Go _ _ _ _ (s₁.setTop (mkF m 5 #[.val (.int u0), .val (.int u1), .val (.int u2), .val (.int u3), .val (.int (3 : Int32)), .unset, .unset, .unset, .unset, .unset] []))
    refine own_st (fun _ k => XS.iloadN X0.here hx rfl (hb hby at_5) rfl k) ?_
    show own_Go _ _ _ _ (s₁.setTop (mkF m 6 #[.val (.int u0), .val (.int u1), .val (.int u2), .val (.int u3), .val (.int (3 : Int32)), .unset, .unset, .unset, .unset, .unset] [(.int u1)]))
    refine own_st (fun _ k => XS.i2b X0.here hx rfl (hb hby at_6) rfl k) ?_
    show own_Go _ _ _ _ (s₁.setTop (mkF m 7 #[.val (.int u0), .val (.int u1), .val (.int u2), .val (.int u3), .val (.int (3 : Int32)), .unset, .unset, .unset, .unset, .unset] [(.int (u1.toInt8.toInt32))]))
    refine own_st (fun _ k => XS.istore X0.here hx rfl (hb hby at_7) rfl (l' := #[.val (.int u0), .val (.int u1), .val (.int u2), .val (.int u3), .val (.int (3 : Int32)), .val (.int (u1.toInt8.toInt32)), .unset, .unset, .unset, .unset]) rfl k) ?_
    show own_Go _ _ _ _ (s₁.setTop (mkF m 9 #[.val (.int u0), .val (.int u1), .val (.int u2), .val (.int u3), .val (.int (3 : Int32)), .val (.int (u1.toInt8.toInt32)), .unset, .unset, .unset, .unset] []))
    refine own_st (fun _ k => XS.iloadN X0.here hx rfl (hb hby at_9) rfl k) ?_
    show own_Go _ _ _ _ (s₁.setTop (mkF m 10 #[.val (.int u0), .val (.int u1), .val (.int u2), .val (.int u3), .val (.int (3 : Int32)), .val (.int (u1.toInt8.toInt32)), .unset, .unset, .unset, .unset] [(.int u2)]))
    refine own_st (fun _ k => XS.i2b X0.here hx rfl (hb hby at_10) rfl k) ?_
    show own_Go _ _ _ _ (s₁.setTop (mkF m 11 #[.val (.int u0), .val (.int u1), .val (.int u2), .val (.int u3), .val (.int (3 : Int32)), .val (.int (u1.toInt8.toInt32)), .unset, .unset, .unset, .unset] [(.int (u2.toInt8.toInt32))]))
    refine own_st (fun _ k => XS.istore X0.here hx rfl (hb hby at_11) rfl (l' := #[.val (.int u0), .val (.int u1), .val (.int u2), .val (.int u3), .val (.int (3 : Int32)), .val (.int (u1.toInt8.toInt32)), .val (.int (u2.toInt8.toInt32)), .unset, .unset, .unset]) rfl k) ?_
    show own_Go _ _ _ _ (s₁.setTop (mkF m 13 #[.val (.int u0), .val (.int u1), .val (.int u2), .val (.int u3), .val (.int (3 : Int32)), .val (.int (u1.toInt8.toInt32)), .val (.int (u2.toInt8.toInt32)), .unset, .unset, .unset] []))
    refine own_st (fun _ k => XS.iloadN X0.here hx rfl (hb hby at_13) rfl k) ?_
    show own_Go _ _ _ _ (s₁.setTop (mkF m 14 #[.val (.int u0), .val (.int u1), .val (.int u2), .val (.int u3), .val (.int (3 : Int32)), .val (.int (u1.toInt8.toInt32)), .val (.int (u2.toInt8.toInt32)), .unset, .unset, .unset] [(.int u3)]))
    refine own_st (fun _ k => XS.i2b X0.here hx rfl (hb hby at_14) rfl k) ?_
    show own_Go _ _ _ _ (s₁.setTop (mkF m 15 #[.val (.int u0), .val (.int u1), .val (.int u2), .val (.int u3), .val (.int (3 : Int32)), .val (.int (u1.toInt8.toInt32)), .val (.int (u2.toInt8.toInt32)), .unset, .unset, .unset] [(.int (u3.toInt8.toInt32))]))
    refine own_st (fun _ k => XS.istore X0.here hx rfl (hb hby at_15) rfl (l' := #[.val (.int u0), .val (.int u1), .val (.int u2), .val (.int u3), .val (.int (3 : Int32)), .val (.int (u1.toInt8.toInt32)), .val (.int (u2.toInt8.toInt32)), .val (.int (u3.toInt8.toInt32)), .unset, .unset]) rfl k) ?_
    show own_Go _ _ _ _ (s₁.setTop (mkF m 17 #[.val (.int u0), .val (.int u1), .val (.int u2), .val (.int u3), .val (.int (3 : Int32)), .val (.int (u1.toInt8.toInt32)), .val (.int (u2.toInt8.toInt32)), .val (.int (u3.toInt8.toInt32)), .unset, .unset] []))
    refine own_st (fun _ k => XS.iload X0.here hx rfl (hb hby at_17) rfl k) ?_
    show own_Go _ _ _ _ (s₁.setTop (mkF m 19 #[.val (.int u0), .val (.int u1), .val (.int u2), .val (.int u3), .val (.int (3 : Int32)), .val (.int (u1.toInt8.toInt32)), .val (.int (u2.toInt8.toInt32)), .val (.int (u3.toInt8.toInt32)), .unset, .unset] [(.int (3 : Int32))]))
    refine own_st (fun _ k => XS.ifYes X0.here hx rfl (pc0 := 19) (pc' := 30) rfl (hb hby at_19) rfl ((if0 _ _).trans (feq (by decide : ¬ ((3 : Int32) = (0 : Int32)))).2) (by decide) (by decide) k) ?_
    show own_Go _ _ _ _ (s₁.setTop (mkF m 30 #[.val (.int u0), .val (.int u1), .val (.int u2), .val (.int u3), .val (.int (3 : Int32)), .val (.int (u1.toInt8.toInt32)), .val (.int (u2.toInt8.toInt32)), .val (.int (u3.toInt8.toInt32)), .unset, .unset] []))
    refine own_st (fun _ k => XS.iload X0.here hx rfl (hb hby at_30) rfl k) ?_
    show own_Go _ _ _ _ (s₁.setTop (mkF m 32 #[.val (.int u0), .val (.int u1), .val (.int u2), .val (.int u3), .val (.int (3 : Int32)), .val (.int (u1.toInt8.toInt32)), .val (.int (u2.toInt8.toInt32)), .val (.int (u3.toInt8.toInt32)), .unset, .unset] [(.int (3 : Int32))]))
    refine own_st (fun _ k => XS.iconst X0.here hx rfl (hb hby at_32) k) ?_
    show own_Go _ _ _ _ (s₁.setTop (mkF m 33 #[.val (.int u0), .val (.int u1), .val (.int u2), .val (.int u3), .val (.int (3 : Int32)), .val (.int (u1.toInt8.toInt32)), .val (.int (u2.toInt8.toInt32)), .val (.int (u3.toInt8.toInt32)), .unset, .unset] [(.int (1 : Int32)), (.int (3 : Int32))]))
    refine own_st (fun _ k => XS.icmpYes X0.here hx rfl (pc0 := 33) (pc' := 49) rfl (hb hby at_33) rfl (feq (by decide : ¬ ((3 : Int32) = (1 : Int32)))).2 (by decide) (by decide) k) ?_
    show own_Go _ _ _ _ (s₁.setTop (mkF m 49 #[.val (.int u0), .val (.int u1), .val (.int u2), .val (.int u3), .val (.int (3 : Int32)), .val (.int (u1.toInt8.toInt32)), .val (.int (u2.toInt8.toInt32)), .val (.int (u3.toInt8.toInt32)), .unset, .unset] []))
    refine own_st (fun _ k => XS.iload X0.here hx rfl (hb hby at_49) rfl k) ?_
    show own_Go _ _ _ _ (s₁.setTop (mkF m 51 #[.val (.int u0), .val (.int u1), .val (.int u2), .val (.int u3), .val (.int (3 : Int32)), .val (.int (u1.toInt8.toInt32)), .val (.int (u2.toInt8.toInt32)), .val (.int (u3.toInt8.toInt32)), .unset, .unset] [(.int (3 : Int32))]))
    refine own_st (fun _ k => XS.iconst X0.here hx rfl (hb hby at_51) k) ?_
    show own_Go _ _ _ _ (s₁.setTop (mkF m 52 #[.val (.int u0), .val (.int u1), .val (.int u2), .val (.int u3), .val (.int (3 : Int32)), .val (.int (u1.toInt8.toInt32)), .val (.int (u2.toInt8.toInt32)), .val (.int (u3.toInt8.toInt32)), .unset, .unset] [(.int (2 : Int32)), (.int (3 : Int32))]))
    refine own_st (fun _ k => XS.icmpYes X0.here hx rfl (pc0 := 52) (pc' := 73) rfl (hb hby at_52) rfl (feq (by decide : ¬ ((3 : Int32) = (2 : Int32)))).2 (by decide) (by decide) k) ?_
    show own_Go _ _ _ _ (s₁.setTop (mkF m 73 #[.val (.int u0), .val (.int u1), .val (.int u2), .val (.int u3), .val (.int (3 : Int32)), .val (.int (u1.toInt8.toInt32)), .val (.int (u2.toInt8.toInt32)), .val (.int (u3.toInt8.toInt32)), .unset, .unset] []))
    refine own_st (fun _ k => XS.iconst X0.here hx rfl (hb hby at_73) k) ?_
    show own_Go _ _ _ _ (s₁.setTop (mkF m 74 #[.val (.int u0), .val (.int u1), .val (.int u2), .val (.int u3), .val (.int (3 : Int32)), .val (.int (u1.toInt8.toInt32)), .val (.int (u2.toInt8.toInt32)), .val (.int (u3.toInt8.toInt32)), .unset, .unset] [(.int (3 : Int32))]))
    obtain ⟨T63, h63, k63, X63, e63, E63, A63, st63⟩ := newP X0 hx hZ (hw _ (List.mem_of_getElem? (i := 0) rfl)) e0 (g := (mkF m 74 #[.val (.int u0), .val (.int u1), .val (.int u2), .val (.int u3), .val (.int (3 : Int32)), .val (.int (u1.toInt8.toInt32)), .val (.int (u2.toInt8.toInt32)), .val (.int (u3.toInt8.toInt32)), .unset, .unset] [(.int (3 : Int32))])) rfl (hb hby at_74) rfl (by decide : ¬ ((3 : Int32) < (0 : Int32))) (cap := 3) (by decide : ((3 : Int32)).toNatClampNeg ≤ 3) (by decide) (by decide) (by decide)
    obtain ⟨b63, g63⟩ : ∃ z, z = h0.size := ⟨_, rfl⟩
    rw [← g63] at A63 st63
    refine own_st st63 ?_
    have Z63 : n0 ≤ h63.size := Nat.le_trans Z0 E63.1
    have gnb63 : n0 ≤ b63 := Nat.le_trans Z0 (Nat.le_of_eq g63.symm)
    have gkb63 : h0.size ≤ b63 := Nat.le_trans K0.1 (Nat.le_of_eq g63.symm)
    have K63 : Keep h0 h63 [] := K0.ext E63
    have V63 : Arv Z h63 b63 k63 .byte (3 : Int32) [(.int (0 : Int32)), (.int (0 : Int32)), (.int (0 : Int32))] (.int (0 : Int32)) := (Arv.new A63 (by decide : ¬ ((3 : Int32) < (0 : Int32)))).pad (pad_rep [] (.int (0 : Int32)) 3)
    show own_Go _ _ _ _ (T63.setTop (mkF m 76 #[.val (.int u0), .val (.int u1), .val (.int u2), .val (.int u3), .val (.int (3 : Int32)), .val (.int (u1.toInt8.toInt32)), .val (.int (u2.toInt8.toInt32)), .val (.int (u3.toInt8.toInt32)), .unset, .unset] [(.ref b63)]))
    refine own_st (fun _ k => XS.dup X63.here hx rfl (hb hby at_76) rfl rfl k) ?_
    show own_Go _ _ _ _ (T63.setTop (mkF m 77 #[.val (.int u0), .val (.int u1), .val (.int u2), .val (.int u3), .val (.int (3 : Int32)), .val (.int (u1.toInt8.toInt32)), .val (.int (u2.toInt8.toInt32)), .val (.int (u3.toInt8.toInt32)), .unset, .unset] [(.ref b63), (.ref b63)]))
    refine own_st (fun _ k => XS.iconst X63.here hx rfl (hb hby at_77) k) ?_
    show own_Go _ _ _ _ (T63.setTop (mkF m 78 #[.val (.int u0), .val (.int u1), .val (.int u2), .val (.int u3), .val (.int (3 : Int32)), .val (.int (u1.toInt8.toInt32)), .val (.int (u2.toInt8.toInt32)), .val (.int (u3.toInt8.toInt32)), .unset, .unset] [(.int (0 : Int32)), (.ref b63), (.ref b63)]))
    refine own_st (fun _ k => XS.iload X63.here hx rfl (hb hby at_78) rfl k) ?_
    show own_Go _ _ _ _ (T63.setTop (mkF m 80 #[.val (.int u0), .val (.int u1), .val (.int u2), .val (.int u3), .val (.int (3 : Int32)), .val (.int (u1.toInt8.toInt32)), .val (.int (u2.toInt8.toInt32)), .val (.int (u3.toInt8.toInt32)), .unset, .unset] [(.int (u1.toInt8.toInt32)), (.int (0 : Int32)), (.ref b63), (.ref b63)]))
    obtain ⟨cl64, Ar64, Kd64, Sz64, Nn64, Hs64, Gs64⟩ := id V63
    obtain ⟨T64, h64, X64, e64, W64, st64⟩ := stB X63 hx hZ e63 Ar64 (j := (0 : Int32)) (inb_of Sz64 ⟨(by decide : ¬ ((0 : Int32) < (0 : Int32))), (by decide : (0 : Int32) < (3 : Int32))⟩) (g := (mkF m 80 #[.val (.int u0), .val (.int u1), .val (.int u2), .val (.int u3), .val (.int (3 : Int32)), .val (.int (u1.toInt8.toInt32)), .val (.int (u2.toInt8.toInt32)), .val (.int (u3.toInt8.toInt32)), .unset, .unset] [(.int (u1.toInt8.toInt32)), (.int (0 : Int32)), (.ref b63), (.ref b63)])) rfl rfl (hb hby at_80)
    refine own_st st64 ?_
    have V64 := Arv.set Ar64 Kd64 Sz64 Nn64 Hs64 Gs64 (fits_nar_byte _) W64 0 rfl (Nat.le_of_ble_eq_true rfl)
    have V64' : Arv Z h64 b63 k63 .byte (3 : Int32) [(.int (u1.toInt8.toInt32)), (.int (0 : Int32)), (.int (0 : Int32))] (.int (0 : Int32)) := by have q := V64; rw [own_narB] at q; exact q
    have Z64 : n0 ≤ h64.size := Nat.le_trans Z63 (Nat.le_of_eq W64.size.symm)
    have N64 := Fr.snoc X64 N0 gnb63
    have K64 : Keep h0 h64 [] := K63.wr W64 (Or.inr gkb63)
    show own_Go _ _ _ _ (T64.setTop (mkF m 81 #[.val (.int u0), .val (.int u1), .val (.int u2), .val (.int u3), .val (.int (3 : Int32)), .val (.int (u1.toInt8.toInt32)), .val (.int (u2.toInt8.toInt32)), .val (.int (u3.toInt8.toInt32)), .unset, .unset] [(.ref b63)]))
    refine own_st (fun _ k => XS.dup X64.here hx rfl (hb hby at_81) rfl rfl k) ?_
    show own_Go _ _ _ _ (T64.setTop (mkF m 82 #[.val (.int u0), .val (.int u1), .val (.int u2), .val (.int u3), .val (.int (3 : Int32)), .val (.int (u1.toInt8.toInt32)), .val (.int (u2.toInt8.toInt32)), .val (.int (u3.toInt8.toInt32)), .unset, .unset] [(.ref b63), (.ref b63)]))
    refine own_st (fun _ k => XS.iconst X64.here hx rfl (hb hby at_82) k) ?_
    show own_Go _ _ _ _ (T64.setTop (mkF m 83 #[.val (.int u0), .val (.int u1), .val (.int u2), .val (.int u3), .val (.int (3 : Int32)), .val (.int (u1.toInt8.toInt32)), .val (.int (u2.toInt8.toInt32)), .val (.int (u3.toInt8.toInt32)), .unset, .unset] [(.int (1 : Int32)), (.ref b63), (.ref b63)]))
    refine own_st (fun _ k => XS.iload X64.here hx rfl (hb hby at_83) rfl k) ?_
    show own_Go _ _ _ _ (T64.setTop (mkF m 85 #[.val (.int u0), .val (.int u1), .val (.int u2), .val (.int u3), .val (.int (3 : Int32)), .val (.int (u1.toInt8.toInt32)), .val (.int (u2.toInt8.toInt32)), .val (.int (u3.toInt8.toInt32)), .unset, .unset] [(.int (u2.toInt8.toInt32)), (.int (1 : Int32)), (.ref b63), (.ref b63)]))
    obtain ⟨cl65, Ar65, Kd65, Sz65, Nn65, Hs65, Gs65⟩ := id V64'
    obtain ⟨T65, h65, X65, e65, W65, st65⟩ := stB X64 hx hZ e64 Ar65 (j := (1 : Int32)) (inb_of Sz65 ⟨(by decide : ¬ ((1 : Int32) < (0 : Int32))), (by decide : (1 : Int32) < (3 : Int32))⟩) (g := (mkF m 85 #[.val (.int u0), .val (.int u1), .val (.int u2), .val (.int u3), .val (.int (3 : Int32)), .val (.int (u1.toInt8.toInt32)), .val (.int (u2.toInt8.toInt32)), .val (.int (u3.toInt8.toInt32)), .unset, .unset] [(.int (u2.toInt8.toInt32)), (.int (1 : Int32)), (.ref b63), (.ref b63)])) rfl rfl (hb hby at_85)
    refine own_st st65 ?_
    have V65 := Arv.set Ar65 Kd65 Sz65 Nn65 Hs65 Gs65 (fits_nar_byte _) W65 1 rfl (Nat.le_of_ble_eq_true rfl)
    have V65' : Arv Z h65 b63 k63 .byte (3 : Int32) [(.int (u1.toInt8.toInt32)), (.int (u2.toInt8.toInt32)), (.int (0 : Int32))] (.int (0 : Int32)) := by have q := V65; rw [own_narB] at q; exact q
    have Z65 : n0 ≤ h65.size := Nat.le_trans Z64 (Nat.le_of_eq W65.size.symm)
    have N65 := Fr.snoc X65 N64 gnb63
    have K65 : Keep h0 h65 [] := K64.wr W65 (Or.inr gkb63)
    show own_Go _ _ _ _ (T65.setTop (mkF m 86 #[.val (.int u0), .val (.int u1), .val (.int u2), .val (.int u3), .val (.int (3 : Int32)), .val (.int (u1.toInt8.toInt32)), .val (.int (u2.toInt8.toInt32)), .val (.int (u3.toInt8.toInt32)), .unset, .unset] [(.ref b63)]))
    refine own_st (fun _ k => XS.dup X65.here hx rfl (hb hby at_86) rfl rfl k) ?_
    show own_Go _ _ _ _ (T65.setTop (mkF m 87 #[.val (.int u0), .val (.int u1), .val (.int u2), .val (.int u3), .val (.int (3 : Int32)), .val (.int (u1.toInt8.toInt32)), .val (.int (u2.toInt8.toInt32)), .val (.int (u3.toInt8.toInt32)), .unset, .unset] [(.ref b63), (.ref b63)]))
    refine own_st (fun _ k => XS.iconst X65.here hx rfl (hb hby at_87) k) ?_
    show own_Go _ _ _ _ (T65.setTop (mkF m 88 #[.val (.int u0), .val (.int u1), .val (.int u2), .val (.int u3), .val (.int (3 : Int32)), .val (.int (u1.toInt8.toInt32)), .val (.int (u2.toInt8.toInt32)), .val (.int (u3.toInt8.toInt32)), .unset, .unset] [(.int (2 : Int32)), (.ref b63), (.ref b63)]))
    refine own_st (fun _ k => XS.iload X65.here hx rfl (hb hby at_88) rfl k) ?_
    show own_Go _ _ _ _ (T65.setTop (mkF m 90 #[.val (.int u0), .val (.int u1), .val (.int u2), .val (.int u3), .val (.int (3 : Int32)), .val (.int (u1.toInt8.toInt32)), .val (.int (u2.toInt8.toInt32)), .val (.int (u3.toInt8.toInt32)), .unset, .unset] [(.int (u3.toInt8.toInt32)), (.int (2 : Int32)), (.ref b63), (.ref b63)]))
    obtain ⟨cl66, Ar66, Kd66, Sz66, Nn66, Hs66, Gs66⟩ := id V65'
    obtain ⟨T66, h66, X66, e66, W66, st66⟩ := stB X65 hx hZ e65 Ar66 (j := (2 : Int32)) (inb_of Sz66 ⟨(by decide : ¬ ((2 : Int32) < (0 : Int32))), (by decide : (2 : Int32) < (3 : Int32))⟩) (g := (mkF m 90 #[.val (.int u0), .val (.int u1), .val (.int u2), .val (.int u3), .val (.int (3 : Int32)), .val (.int (u1.toInt8.toInt32)), .val (.int (u2.toInt8.toInt32)), .val (.int (u3.toInt8.toInt32)), .unset, .unset] [(.int (u3.toInt8.toInt32)), (.int (2 : Int32)), (.ref b63), (.ref b63)])) rfl rfl (hb hby at_90)
    refine own_st st66 ?_
    have V66 := Arv.set Ar66 Kd66 Sz66 Nn66 Hs66 Gs66 (fits_nar_byte _) W66 2 rfl (Nat.le_of_ble_eq_true rfl)
    have V66' : Arv Z h66 b63 k63 .byte (3 : Int32) [(.int (u1.toInt8.toInt32)), (.int (u2.toInt8.toInt32)), (.int (u3.toInt8.toInt32))] (.int (0 : Int32)) := by have q := V66; rw [own_narB] at q; exact q
    have Z66 : n0 ≤ h66.size := Nat.le_trans Z65 (Nat.le_of_eq W66.size.symm)
    have N66 := Fr.snoc X66 N65 gnb63
    have K66 : Keep h0 h66 [] := K65.wr W66 (Or.inr gkb63)
    show own_Go _ _ _ _ (T66.setTop (mkF m 91 #[.val (.int u0), .val (.int u1), .val (.int u2), .val (.int u3), .val (.int (3 : Int32)), .val (.int (u1.toInt8.toInt32)), .val (.int (u2.toInt8.toInt32)), .val (.int (u3.toInt8.toInt32)), .unset, .unset] [(.ref b63)]))
    refine own_st (fun _ k => XS.astore X66.here hx rfl (hb hby at_91) rfl rfl (l' := #[.val (.int u0), .val (.int u1), .val (.int u2), .val (.int u3), .val (.int (3 : Int32)), .val (.int (u1.toInt8.toInt32)), .val (.int (u2.toInt8.toInt32)), .val (.int (u3.toInt8.toInt32)), .val (.ref b63), .unset]) rfl k) ?_
    show own_Go _ _ _ _ (T66.setTop (mkF m 93 #[.val (.int u0), .val (.int u1), .val (.int u2), .val (.int u3), .val (.int (3 : Int32)), .val (.int (u1.toInt8.toInt32)), .val (.int (u2.toInt8.toInt32)), .val (.int (u3.toInt8.toInt32)), .val (.ref b63), .unset] []))
    refine own_st (fun _ k => XS.aload X66.here hx rfl (hb hby at_93) rfl rfl k) ?_
    show own_Go _ _ _ _ (T66.setTop (mkF m 95 #[.val (.int u0), .val (.int u1), .val (.int u2), .val (.int u3), .val (.int (3 : Int32)), .val (.int (u1.toInt8.toInt32)), .val (.int (u2.toInt8.toInt32)), .val (.int (u3.toInt8.toInt32)), .val (.ref b63), .unset] [(.ref b63)]))
    obtain ⟨_, _, ⟨T67, L67, k67, n67⟩, -, X67, ⟨Lc67, hQ67, l67, y67, z67⟩, st67⟩ := Jvm.LawKit.callS X66 hx (y := (⟨"com/example/outlay/outlay/GitPath", "endBelow", "([B)[B"⟩ : MethodName)) hown (mvT hZ (hw _ (List.mem_of_getElem? (i := 1) rfl))) (mvT hZ (hw _ (List.mem_of_getElem? (i := 2) rfl))) (mvT hZ (hw _ (List.mem_of_getElem? (i := 3) rfl))) (mvT hZ (hw _ (List.mem_of_getElem? (i := 4) rfl))) (by decide) (backOf (W := 0) (rm1_3 l Z a0 hw [] b63 k63 (u1.toInt8.toInt32) (u2.toInt8.toInt32) (u3.toInt8.toInt32) h66 n0 Z66 V66') hZ (hw _ (List.mem_of_getElem? (i := 4) rfl)) (hw _ (List.mem_of_getElem? (i := 3) rfl)) (by decide) (by decide)) (g := (mkF m 95 #[.val (.int u0), .val (.int u1), .val (.int u2), .val (.int u3), .val (.int (3 : Int32)), .val (.int (u1.toInt8.toInt32)), .val (.int (u2.toInt8.toInt32)), .val (.int (u3.toInt8.toInt32)), .val (.ref b63), .unset] [(.ref b63)])) rfl (by rw [hml]; rfl) (argsL := [(.ref b63)]) (rest := []) (lenOf own_pd2 rfl) rfl (by show 2 * 0 + _ ≤ _; exact Nat.le_of_eq rfl) (hb hby at_95) (fun _ _ => ⟨rfl, e66, (by decide : 1 + 1 ≤ _), (by decide : 3 + 4 ≤ _)⟩)
    dsimp only [Pt.U, Pt.locs, Pt.cells, Pt.slots] at X67 l67 y67 z67 st67 hQ67
    subst l67 y67 z67
    obtain ⟨bq67, kq67, rfl, Nq67, Kq67, gq67, Vq67⟩ := hQ67
    have N67 := Fr.app N66 Nq67
    refine own_st st67 ?_
    have neb63_bq67 : b63 ≠ bq67 := Nat.ne_of_lt (Nat.lt_of_lt_of_le V66'.lt gq67)
    have gnbq67 : n0 ≤ bq67 := Nat.le_trans Z66 gq67
    have gkbq67 : h0.size ≤ bq67 := Nat.le_trans K66.1 gq67
    have z67_V_b63 := V66'.keep Kq67 nin0
    have Z67 : n0 ≤ T67.heap.size := Nat.le_trans Z66 Kq67.1
    have Kk67 : Keep h0 T67.heap [] := K66.trans Kq67 all0
    show own_Go _ _ _ _ (T67.setTop (mkF m 98 #[.val (.int u0), .val (.int u1), .val (.int u2), .val (.int u3), .val (.int (3 : Int32)), .val (.int (u1.toInt8.toInt32)), .val (.int (u2.toInt8.toInt32)), .val (.int (u3.toInt8.toInt32)), .val (.ref b63), .unset] [(.ref bq67)]))
    refine own_st (fun _ k => XS.astore X67.here hx rfl (hb hby at_98) rfl rfl (l' := #[.val (.int u0), .val (.int u1), .val (.int u2), .val (.int u3), .val (.int (3 : Int32)), .val (.int (u1.toInt8.toInt32)), .val (.int (u2.toInt8.toInt32)), .val (.int (u3.toInt8.toInt32)), .val (.ref b63), .val (.ref bq67)]) rfl k) ?_
    show own_Go _ _ _ _ (T67.setTop (mkF m 100 #[.val (.int u0), .val (.int u1), .val (.int u2), .val (.int u3), .val (.int (3 : Int32)), .val (.int (u1.toInt8.toInt32)), .val (.int (u2.toInt8.toInt32)), .val (.int (u3.toInt8.toInt32)), .val (.ref b63), .val (.ref bq67)] []))
    refine own_st (fun _ k => XS.aload X67.here hx rfl (hb hby at_100) rfl rfl k) ?_
    show own_Go _ _ _ _ (T67.setTop (mkF m 102 #[.val (.int u0), .val (.int u1), .val (.int u2), .val (.int u3), .val (.int (3 : Int32)), .val (.int (u1.toInt8.toInt32)), .val (.int (u2.toInt8.toInt32)), .val (.int (u3.toInt8.toInt32)), .val (.ref b63), .val (.ref bq67)] [(.ref bq67)]))
    refine own_st (fun _ k => XS.ifnullNo X67.here hx rfl (hb hby at_102) rfl k) ?_
    show own_Go _ _ _ _ (T67.setTop (mkF m 105 #[.val (.int u0), .val (.int u1), .val (.int u2), .val (.int u3), .val (.int (3 : Int32)), .val (.int (u1.toInt8.toInt32)), .val (.int (u2.toInt8.toInt32)), .val (.int (u3.toInt8.toInt32)), .val (.ref b63), .val (.ref bq67)] []))
    refine own_st (fun _ k => XS.aload X67.here hx rfl (hb hby at_105) rfl rfl k) ?_
    show own_Go _ _ _ _ (T67.setTop (mkF m 107 #[.val (.int u0), .val (.int u1), .val (.int u2), .val (.int u3), .val (.int (3 : Int32)), .val (.int (u1.toInt8.toInt32)), .val (.int (u2.toInt8.toInt32)), .val (.int (u3.toInt8.toInt32)), .val (.ref b63), .val (.ref bq67)] [(.ref bq67)]))
    refine own_st (fun _ k => XS.aload X67.here hx rfl (hb hby at_107) rfl rfl k) ?_
    show own_Go _ _ _ _ (T67.setTop (mkF m 109 #[.val (.int u0), .val (.int u1), .val (.int u2), .val (.int u3), .val (.int (3 : Int32)), .val (.int (u1.toInt8.toInt32)), .val (.int (u2.toInt8.toInt32)), .val (.int (u3.toInt8.toInt32)), .val (.ref b63), .val (.ref bq67)] [(.ref b63), (.ref bq67)]))
    refine own_st (fun _ k => Jvm.RoadKit.acmp (g := (mkF m 109 #[.val (.int u0), .val (.int u1), .val (.int u2), .val (.int u3), .val (.int (3 : Int32)), .val (.int (u1.toInt8.toInt32)), .val (.int (u2.toInt8.toInt32)), .val (.int (u3.toInt8.toInt32)), .val (.ref b63), .val (.ref bq67)] [(.ref b63), (.ref bq67)])) X67 hx rfl rfl rfl (pc0 := 109) (pc' := 112) (same := false) rfl (hb hby at_109) rfl (decide_eq_false fun q => (Ne.symm neb63_bq67) (Value.ref.inj q)) (by decide) (by decide) k) ?_
    show own_Go _ _ _ _ (T67.setTop (mkF m 112 #[.val (.int u0), .val (.int u1), .val (.int u2), .val (.int u3), .val (.int (3 : Int32)), .val (.int (u1.toInt8.toInt32)), .val (.int (u2.toInt8.toInt32)), .val (.int (u3.toInt8.toInt32)), .val (.ref b63), .val (.ref bq67)] []))
    refine own_st (fun _ k => XS.aload X67.here hx rfl (hb hby at_112) rfl rfl k) ?_
    show own_Go _ _ _ _ (T67.setTop (mkF m 114 #[.val (.int u0), .val (.int u1), .val (.int u2), .val (.int u3), .val (.int (3 : Int32)), .val (.int (u1.toInt8.toInt32)), .val (.int (u2.toInt8.toInt32)), .val (.int (u3.toInt8.toInt32)), .val (.ref b63), .val (.ref bq67)] [(.ref b63)]))
    obtain ⟨cl68, Ar68, -, Sz68, Nn68, -, -⟩ := id z67_V_b63
    refine own_st (X67.arraylength hx Ar68.1 (State.isArrayOf_alike hZ.alike Ar68.2.1) (g := (mkF m 114 #[.val (.int u0), .val (.int u1), .val (.int u2), .val (.int u3), .val (.int (3 : Int32)), .val (.int (u1.toInt8.toInt32)), .val (.int (u2.toInt8.toInt32)), .val (.int (u3.toInt8.toInt32)), .val (.ref b63), .val (.ref bq67)] [(.ref b63)])) rfl rfl (hb hby at_114)) ?_
    rw [len_of Sz68 Nn68]
    show own_Go _ _ _ _ (T67.setTop (mkF m 115 #[.val (.int u0), .val (.int u1), .val (.int u2), .val (.int u3), .val (.int (3 : Int32)), .val (.int (u1.toInt8.toInt32)), .val (.int (u2.toInt8.toInt32)), .val (.int (u3.toInt8.toInt32)), .val (.ref b63), .val (.ref bq67)] [(.int (3 : Int32))]))
    refine own_st (fun _ k => XS.iload X67.here hx rfl (hb hby at_115) rfl k) ?_
    show own_Go _ _ _ _ (T67.setTop (mkF m 117 #[.val (.int u0), .val (.int u1), .val (.int u2), .val (.int u3), .val (.int (3 : Int32)), .val (.int (u1.toInt8.toInt32)), .val (.int (u2.toInt8.toInt32)), .val (.int (u3.toInt8.toInt32)), .val (.ref b63), .val (.ref bq67)] [(.int (3 : Int32)), (.int (3 : Int32))]))
    refine own_st (fun _ k => XS.icmpNo X67.here hx rfl (hb hby at_117) rfl (teq (by decide : ((3 : Int32) = (3 : Int32)))).2 k) ?_
    show own_Go _ _ _ _ (T67.setTop (mkF m 120 #[.val (.int u0), .val (.int u1), .val (.int u2), .val (.int u3), .val (.int (3 : Int32)), .val (.int (u1.toInt8.toInt32)), .val (.int (u2.toInt8.toInt32)), .val (.int (u3.toInt8.toInt32)), .val (.ref b63), .val (.ref bq67)] []))
    refine own_st (fun _ k => XS.aload X67.here hx rfl (hb hby at_120) rfl rfl k) ?_
    show own_Go _ _ _ _ (T67.setTop (mkF m 122 #[.val (.int u0), .val (.int u1), .val (.int u2), .val (.int u3), .val (.int (3 : Int32)), .val (.int (u1.toInt8.toInt32)), .val (.int (u2.toInt8.toInt32)), .val (.int (u3.toInt8.toInt32)), .val (.ref b63), .val (.ref bq67)] [(.ref bq67)]))
    obtain ⟨cl69, Ar69, -, Sz69, Nn69, -, -⟩ := id Vq67
    refine own_st (X67.arraylength hx Ar69.1 (State.isArrayOf_alike hZ.alike Ar69.2.1) (g := (mkF m 122 #[.val (.int u0), .val (.int u1), .val (.int u2), .val (.int u3), .val (.int (3 : Int32)), .val (.int (u1.toInt8.toInt32)), .val (.int (u2.toInt8.toInt32)), .val (.int (u3.toInt8.toInt32)), .val (.ref b63), .val (.ref bq67)] [(.ref bq67)])) rfl rfl (hb hby at_122)) ?_
    rw [len_of Sz69 Nn69]
    show own_Go _ _ _ _ (T67.setTop (mkF m 123 #[.val (.int u0), .val (.int u1), .val (.int u2), .val (.int u3), .val (.int (3 : Int32)), .val (.int (u1.toInt8.toInt32)), .val (.int (u2.toInt8.toInt32)), .val (.int (u3.toInt8.toInt32)), .val (.ref b63), .val (.ref bq67)] [(.int (4 : Int32))]))
    refine own_st (fun _ k => XS.iload X67.here hx rfl (hb hby at_123) rfl k) ?_
    show own_Go _ _ _ _ (T67.setTop (mkF m 125 #[.val (.int u0), .val (.int u1), .val (.int u2), .val (.int u3), .val (.int (3 : Int32)), .val (.int (u1.toInt8.toInt32)), .val (.int (u2.toInt8.toInt32)), .val (.int (u3.toInt8.toInt32)), .val (.ref b63), .val (.ref bq67)] [(.int (3 : Int32)), (.int (4 : Int32))]))
    refine own_st (fun _ k => XS.iconst X67.here hx rfl (hb hby at_125) k) ?_
    show own_Go _ _ _ _ (T67.setTop (mkF m 126 #[.val (.int u0), .val (.int u1), .val (.int u2), .val (.int u3), .val (.int (3 : Int32)), .val (.int (u1.toInt8.toInt32)), .val (.int (u2.toInt8.toInt32)), .val (.int (u3.toInt8.toInt32)), .val (.ref b63), .val (.ref bq67)] [(.int (1 : Int32)), (.int (3 : Int32)), (.int (4 : Int32))]))
    refine own_st (fun _ k => XS.iadd X67.here hx rfl (hb hby at_126) rfl k) ?_
    show own_Go _ _ _ _ (T67.setTop (mkF m 127 #[.val (.int u0), .val (.int u1), .val (.int u2), .val (.int u3), .val (.int (3 : Int32)), .val (.int (u1.toInt8.toInt32)), .val (.int (u2.toInt8.toInt32)), .val (.int (u3.toInt8.toInt32)), .val (.ref b63), .val (.ref bq67)] [(.int (4 : Int32)), (.int (4 : Int32))]))
    refine own_st (fun _ k => XS.icmpYes X67.here hx rfl (pc0 := 127) (pc' := 132) rfl (hb hby at_127) rfl (teq (by decide : ((4 : Int32) = (4 : Int32)))).1 (by decide) (by decide) k) ?_
    show own_Go _ _ _ _ (T67.setTop (mkF m 132 #[.val (.int u0), .val (.int u1), .val (.int u2), .val (.int u3), .val (.int (3 : Int32)), .val (.int (u1.toInt8.toInt32)), .val (.int (u2.toInt8.toInt32)), .val (.int (u3.toInt8.toInt32)), .val (.ref b63), .val (.ref bq67)] []))
    refine own_st (fun _ k => XS.aload X67.here hx rfl (hb hby at_132) rfl rfl k) ?_
    show own_Go _ _ _ _ (T67.setTop (mkF m 134 #[.val (.int u0), .val (.int u1), .val (.int u2), .val (.int u3), .val (.int (3 : Int32)), .val (.int (u1.toInt8.toInt32)), .val (.int (u2.toInt8.toInt32)), .val (.int (u3.toInt8.toInt32)), .val (.ref b63), .val (.ref bq67)] [(.ref bq67)]))
    refine own_st (fun _ k => XS.iload X67.here hx rfl (hb hby at_134) rfl k) ?_
    show own_Go _ _ _ _ (T67.setTop (mkF m 136 #[.val (.int u0), .val (.int u1), .val (.int u2), .val (.int u3), .val (.int (3 : Int32)), .val (.int (u1.toInt8.toInt32)), .val (.int (u2.toInt8.toInt32)), .val (.int (u3.toInt8.toInt32)), .val (.ref b63), .val (.ref bq67)] [(.int (3 : Int32)), (.ref bq67)]))
    obtain ⟨cl70, Ar70, -, Sz70, Nn70, Hs70, -⟩ := id Vq67
    have hin70 : ¬ ((3 : Int32) < 0 ∨ cl70.slots.size ≤ ((3 : Int32)).toNatClampNeg) := inb_of Sz70 ⟨(by decide : ¬ ((3 : Int32) < (0 : Int32))), (by decide : (3 : Int32) < (4 : Int32))⟩
    have hat70 : cl70.slots[((3 : Int32)).toNatClampNeg]? = some (.int (48 : Int32)) := Hs70.at hin70 rfl
    refine own_st (X67.baloadBytes hx (j := (3 : Int32)) (v := (.int (48 : Int32))) Ar70.1 (State.isArrayOf_alike hZ.alike Ar70.2.1) Ar70.2.2 hin70 hat70 (g := (mkF m 136 #[.val (.int u0), .val (.int u1), .val (.int u2), .val (.int u3), .val (.int (3 : Int32)), .val (.int (u1.toInt8.toInt32)), .val (.int (u2.toInt8.toInt32)), .val (.int (u3.toInt8.toInt32)), .val (.ref b63), .val (.ref bq67)] [(.int (3 : Int32)), (.ref bq67)])) rfl rfl (hb hby at_136)) ?_
    show own_Go _ _ _ _ (T67.setTop (mkF m 137 #[.val (.int u0), .val (.int u1), .val (.int u2), .val (.int u3), .val (.int (3 : Int32)), .val (.int (u1.toInt8.toInt32)), .val (.int (u2.toInt8.toInt32)), .val (.int (u3.toInt8.toInt32)), .val (.ref b63), .val (.ref bq67)] [(.int (48 : Int32))]))
    refine own_st (fun _ k => XS.bipush X67.here hx rfl (hb hby at_137) k) ?_
    show own_Go _ _ _ _ (T67.setTop (mkF m 139 #[.val (.int u0), .val (.int u1), .val (.int u2), .val (.int u3), .val (.int (3 : Int32)), .val (.int (u1.toInt8.toInt32)), .val (.int (u2.toInt8.toInt32)), .val (.int (u3.toInt8.toInt32)), .val (.ref b63), .val (.ref bq67)] [(.int (48 : Int32)), (.int (48 : Int32))]))
    refine own_st (fun _ k => XS.icmpYes X67.here hx rfl (pc0 := 139) (pc' := 144) rfl (hb hby at_139) rfl (teq (by decide : ((48 : Int32) = (48 : Int32)))).1 (by decide) (by decide) k) ?_
    show own_Go _ _ _ _ (T67.setTop (mkF m 144 #[.val (.int u0), .val (.int u1), .val (.int u2), .val (.int u3), .val (.int (3 : Int32)), .val (.int (u1.toInt8.toInt32)), .val (.int (u2.toInt8.toInt32)), .val (.int (u3.toInt8.toInt32)), .val (.ref b63), .val (.ref bq67)] []))
    refine own_st (fun _ k => XS.iload X67.here hx rfl (hb hby at_144) rfl k) ?_
    show own_Go _ _ _ _ (T67.setTop (mkF m 146 #[.val (.int u0), .val (.int u1), .val (.int u2), .val (.int u3), .val (.int (3 : Int32)), .val (.int (u1.toInt8.toInt32)), .val (.int (u2.toInt8.toInt32)), .val (.int (u3.toInt8.toInt32)), .val (.ref b63), .val (.ref bq67)] [(.int (3 : Int32))]))
    refine own_st (fun _ k => XS.ifNo X67.here hx rfl (hb hby at_146) rfl ((if0 _ _).trans (tlt (by decide : ((0 : Int32) < (3 : Int32)))).2.2.2) k) ?_
    show own_Go _ _ _ _ (T67.setTop (mkF m 149 #[.val (.int u0), .val (.int u1), .val (.int u2), .val (.int u3), .val (.int (3 : Int32)), .val (.int (u1.toInt8.toInt32)), .val (.int (u2.toInt8.toInt32)), .val (.int (u3.toInt8.toInt32)), .val (.ref b63), .val (.ref bq67)] []))
    refine own_st (fun _ k => XS.aload X67.here hx rfl (hb hby at_149) rfl rfl k) ?_
    show own_Go _ _ _ _ (T67.setTop (mkF m 151 #[.val (.int u0), .val (.int u1), .val (.int u2), .val (.int u3), .val (.int (3 : Int32)), .val (.int (u1.toInt8.toInt32)), .val (.int (u2.toInt8.toInt32)), .val (.int (u3.toInt8.toInt32)), .val (.ref b63), .val (.ref bq67)] [(.ref bq67)]))
    refine own_st (fun _ k => XS.iconst X67.here hx rfl (hb hby at_151) k) ?_
    show own_Go _ _ _ _ (T67.setTop (mkF m 152 #[.val (.int u0), .val (.int u1), .val (.int u2), .val (.int u3), .val (.int (3 : Int32)), .val (.int (u1.toInt8.toInt32)), .val (.int (u2.toInt8.toInt32)), .val (.int (u3.toInt8.toInt32)), .val (.ref b63), .val (.ref bq67)] [(.int (0 : Int32)), (.ref bq67)]))
    obtain ⟨cl71, Ar71, -, Sz71, Nn71, Hs71, -⟩ := id Vq67
    have hin71 : ¬ ((0 : Int32) < 0 ∨ cl71.slots.size ≤ ((0 : Int32)).toNatClampNeg) := inb_of Sz71 ⟨(by decide : ¬ ((0 : Int32) < (0 : Int32))), (by decide : (0 : Int32) < (4 : Int32))⟩
    have hat71 : cl71.slots[((0 : Int32)).toNatClampNeg]? = some (.int (u1.toInt8.toInt32)) := Hs71.at hin71 rfl
    refine own_st (X67.baloadBytes hx (j := (0 : Int32)) (v := (.int (u1.toInt8.toInt32))) Ar71.1 (State.isArrayOf_alike hZ.alike Ar71.2.1) Ar71.2.2 hin71 hat71 (g := (mkF m 152 #[.val (.int u0), .val (.int u1), .val (.int u2), .val (.int u3), .val (.int (3 : Int32)), .val (.int (u1.toInt8.toInt32)), .val (.int (u2.toInt8.toInt32)), .val (.int (u3.toInt8.toInt32)), .val (.ref b63), .val (.ref bq67)] [(.int (0 : Int32)), (.ref bq67)])) rfl rfl (hb hby at_152)) ?_
    show own_Go _ _ _ _ (T67.setTop (mkF m 153 #[.val (.int u0), .val (.int u1), .val (.int u2), .val (.int u3), .val (.int (3 : Int32)), .val (.int (u1.toInt8.toInt32)), .val (.int (u2.toInt8.toInt32)), .val (.int (u3.toInt8.toInt32)), .val (.ref b63), .val (.ref bq67)] [(.int (u1.toInt8.toInt32))]))
    refine own_st (fun _ k => XS.iload X67.here hx rfl (hb hby at_153) rfl k) ?_
    show own_Go _ _ _ _ (T67.setTop (mkF m 155 #[.val (.int u0), .val (.int u1), .val (.int u2), .val (.int u3), .val (.int (3 : Int32)), .val (.int (u1.toInt8.toInt32)), .val (.int (u2.toInt8.toInt32)), .val (.int (u3.toInt8.toInt32)), .val (.ref b63), .val (.ref bq67)] [(.int (u1.toInt8.toInt32)), (.int (u1.toInt8.toInt32))]))
    refine own_st (fun _ k => XS.icmpNo X67.here hx rfl (hb hby at_155) rfl (teq (rfl : (u1.toInt8.toInt32) = (u1.toInt8.toInt32))).2 k) ?_
    show own_Go _ _ _ _ (T67.setTop (mkF m 158 #[.val (.int u0), .val (.int u1), .val (.int u2), .val (.int u3), .val (.int (3 : Int32)), .val (.int (u1.toInt8.toInt32)), .val (.int (u2.toInt8.toInt32)), .val (.int (u3.toInt8.toInt32)), .val (.ref b63), .val (.ref bq67)] []))
    refine own_st (fun _ k => XS.aload X67.here hx rfl (hb hby at_158) rfl rfl k) ?_
    show own_Go _ _ _ _ (T67.setTop (mkF m 160 #[.val (.int u0), .val (.int u1), .val (.int u2), .val (.int u3), .val (.int (3 : Int32)), .val (.int (u1.toInt8.toInt32)), .val (.int (u2.toInt8.toInt32)), .val (.int (u3.toInt8.toInt32)), .val (.ref b63), .val (.ref bq67)] [(.ref b63)]))
    refine own_st (fun _ k => XS.iconst X67.here hx rfl (hb hby at_160) k) ?_
    show own_Go _ _ _ _ (T67.setTop (mkF m 161 #[.val (.int u0), .val (.int u1), .val (.int u2), .val (.int u3), .val (.int (3 : Int32)), .val (.int (u1.toInt8.toInt32)), .val (.int (u2.toInt8.toInt32)), .val (.int (u3.toInt8.toInt32)), .val (.ref b63), .val (.ref bq67)] [(.int (0 : Int32)), (.ref b63)]))
    obtain ⟨cl72, Ar72, -, Sz72, Nn72, Hs72, -⟩ := id z67_V_b63
    have hin72 : ¬ ((0 : Int32) < 0 ∨ cl72.slots.size ≤ ((0 : Int32)).toNatClampNeg) := inb_of Sz72 ⟨(by decide : ¬ ((0 : Int32) < (0 : Int32))), (by decide : (0 : Int32) < (3 : Int32))⟩
    have hat72 : cl72.slots[((0 : Int32)).toNatClampNeg]? = some (.int (u1.toInt8.toInt32)) := Hs72.at hin72 rfl
    refine own_st (X67.baloadBytes hx (j := (0 : Int32)) (v := (.int (u1.toInt8.toInt32))) Ar72.1 (State.isArrayOf_alike hZ.alike Ar72.2.1) Ar72.2.2 hin72 hat72 (g := (mkF m 161 #[.val (.int u0), .val (.int u1), .val (.int u2), .val (.int u3), .val (.int (3 : Int32)), .val (.int (u1.toInt8.toInt32)), .val (.int (u2.toInt8.toInt32)), .val (.int (u3.toInt8.toInt32)), .val (.ref b63), .val (.ref bq67)] [(.int (0 : Int32)), (.ref b63)])) rfl rfl (hb hby at_161)) ?_
    show own_Go _ _ _ _ (T67.setTop (mkF m 162 #[.val (.int u0), .val (.int u1), .val (.int u2), .val (.int u3), .val (.int (3 : Int32)), .val (.int (u1.toInt8.toInt32)), .val (.int (u2.toInt8.toInt32)), .val (.int (u3.toInt8.toInt32)), .val (.ref b63), .val (.ref bq67)] [(.int (u1.toInt8.toInt32))]))
    refine own_st (fun _ k => XS.iload X67.here hx rfl (hb hby at_162) rfl k) ?_
    show own_Go _ _ _ _ (T67.setTop (mkF m 164 #[.val (.int u0), .val (.int u1), .val (.int u2), .val (.int u3), .val (.int (3 : Int32)), .val (.int (u1.toInt8.toInt32)), .val (.int (u2.toInt8.toInt32)), .val (.int (u3.toInt8.toInt32)), .val (.ref b63), .val (.ref bq67)] [(.int (u1.toInt8.toInt32)), (.int (u1.toInt8.toInt32))]))
    refine own_st (fun _ k => XS.icmpYes X67.here hx rfl (pc0 := 164) (pc' := 169) rfl (hb hby at_164) rfl (teq (rfl : (u1.toInt8.toInt32) = (u1.toInt8.toInt32))).1 (by decide) (by decide) k) ?_
    show own_Go _ _ _ _ (T67.setTop (mkF m 169 #[.val (.int u0), .val (.int u1), .val (.int u2), .val (.int u3), .val (.int (3 : Int32)), .val (.int (u1.toInt8.toInt32)), .val (.int (u2.toInt8.toInt32)), .val (.int (u3.toInt8.toInt32)), .val (.ref b63), .val (.ref bq67)] []))
    refine own_st (fun _ k => XS.iload X67.here hx rfl (hb hby at_169) rfl k) ?_
    show own_Go _ _ _ _ (T67.setTop (mkF m 171 #[.val (.int u0), .val (.int u1), .val (.int u2), .val (.int u3), .val (.int (3 : Int32)), .val (.int (u1.toInt8.toInt32)), .val (.int (u2.toInt8.toInt32)), .val (.int (u3.toInt8.toInt32)), .val (.ref b63), .val (.ref bq67)] [(.int (3 : Int32))]))
    refine own_st (fun _ k => XS.iconst X67.here hx rfl (hb hby at_171) k) ?_
    show own_Go _ _ _ _ (T67.setTop (mkF m 172 #[.val (.int u0), .val (.int u1), .val (.int u2), .val (.int u3), .val (.int (3 : Int32)), .val (.int (u1.toInt8.toInt32)), .val (.int (u2.toInt8.toInt32)), .val (.int (u3.toInt8.toInt32)), .val (.ref b63), .val (.ref bq67)] [(.int (1 : Int32)), (.int (3 : Int32))]))
    refine own_st (fun _ k => XS.icmpNo X67.here hx rfl (hb hby at_172) rfl (tlt (by decide : ((1 : Int32) < (3 : Int32)))).2.2.2 k) ?_
    show own_Go _ _ _ _ (T67.setTop (mkF m 175 #[.val (.int u0), .val (.int u1), .val (.int u2), .val (.int u3), .val (.int (3 : Int32)), .val (.int (u1.toInt8.toInt32)), .val (.int (u2.toInt8.toInt32)), .val (.int (u3.toInt8.toInt32)), .val (.ref b63), .val (.ref bq67)] []))
    refine own_st (fun _ k => XS.aload X67.here hx rfl (hb hby at_175) rfl rfl k) ?_
    show own_Go _ _ _ _ (T67.setTop (mkF m 177 #[.val (.int u0), .val (.int u1), .val (.int u2), .val (.int u3), .val (.int (3 : Int32)), .val (.int (u1.toInt8.toInt32)), .val (.int (u2.toInt8.toInt32)), .val (.int (u3.toInt8.toInt32)), .val (.ref b63), .val (.ref bq67)] [(.ref bq67)]))
    refine own_st (fun _ k => XS.iconst X67.here hx rfl (hb hby at_177) k) ?_
    show own_Go _ _ _ _ (T67.setTop (mkF m 178 #[.val (.int u0), .val (.int u1), .val (.int u2), .val (.int u3), .val (.int (3 : Int32)), .val (.int (u1.toInt8.toInt32)), .val (.int (u2.toInt8.toInt32)), .val (.int (u3.toInt8.toInt32)), .val (.ref b63), .val (.ref bq67)] [(.int (1 : Int32)), (.ref bq67)]))
    obtain ⟨cl73, Ar73, -, Sz73, Nn73, Hs73, -⟩ := id Vq67
    have hin73 : ¬ ((1 : Int32) < 0 ∨ cl73.slots.size ≤ ((1 : Int32)).toNatClampNeg) := inb_of Sz73 ⟨(by decide : ¬ ((1 : Int32) < (0 : Int32))), (by decide : (1 : Int32) < (4 : Int32))⟩
    have hat73 : cl73.slots[((1 : Int32)).toNatClampNeg]? = some (.int (u2.toInt8.toInt32)) := Hs73.at hin73 rfl
    refine own_st (X67.baloadBytes hx (j := (1 : Int32)) (v := (.int (u2.toInt8.toInt32))) Ar73.1 (State.isArrayOf_alike hZ.alike Ar73.2.1) Ar73.2.2 hin73 hat73 (g := (mkF m 178 #[.val (.int u0), .val (.int u1), .val (.int u2), .val (.int u3), .val (.int (3 : Int32)), .val (.int (u1.toInt8.toInt32)), .val (.int (u2.toInt8.toInt32)), .val (.int (u3.toInt8.toInt32)), .val (.ref b63), .val (.ref bq67)] [(.int (1 : Int32)), (.ref bq67)])) rfl rfl (hb hby at_178)) ?_
    show own_Go _ _ _ _ (T67.setTop (mkF m 179 #[.val (.int u0), .val (.int u1), .val (.int u2), .val (.int u3), .val (.int (3 : Int32)), .val (.int (u1.toInt8.toInt32)), .val (.int (u2.toInt8.toInt32)), .val (.int (u3.toInt8.toInt32)), .val (.ref b63), .val (.ref bq67)] [(.int (u2.toInt8.toInt32))]))
    refine own_st (fun _ k => XS.iload X67.here hx rfl (hb hby at_179) rfl k) ?_
    show own_Go _ _ _ _ (T67.setTop (mkF m 181 #[.val (.int u0), .val (.int u1), .val (.int u2), .val (.int u3), .val (.int (3 : Int32)), .val (.int (u1.toInt8.toInt32)), .val (.int (u2.toInt8.toInt32)), .val (.int (u3.toInt8.toInt32)), .val (.ref b63), .val (.ref bq67)] [(.int (u2.toInt8.toInt32)), (.int (u2.toInt8.toInt32))]))
    refine own_st (fun _ k => XS.icmpNo X67.here hx rfl (hb hby at_181) rfl (teq (rfl : (u2.toInt8.toInt32) = (u2.toInt8.toInt32))).2 k) ?_
    show own_Go _ _ _ _ (T67.setTop (mkF m 184 #[.val (.int u0), .val (.int u1), .val (.int u2), .val (.int u3), .val (.int (3 : Int32)), .val (.int (u1.toInt8.toInt32)), .val (.int (u2.toInt8.toInt32)), .val (.int (u3.toInt8.toInt32)), .val (.ref b63), .val (.ref bq67)] []))
    refine own_st (fun _ k => XS.aload X67.here hx rfl (hb hby at_184) rfl rfl k) ?_
    show own_Go _ _ _ _ (T67.setTop (mkF m 186 #[.val (.int u0), .val (.int u1), .val (.int u2), .val (.int u3), .val (.int (3 : Int32)), .val (.int (u1.toInt8.toInt32)), .val (.int (u2.toInt8.toInt32)), .val (.int (u3.toInt8.toInt32)), .val (.ref b63), .val (.ref bq67)] [(.ref b63)]))
    refine own_st (fun _ k => XS.iconst X67.here hx rfl (hb hby at_186) k) ?_
    show own_Go _ _ _ _ (T67.setTop (mkF m 187 #[.val (.int u0), .val (.int u1), .val (.int u2), .val (.int u3), .val (.int (3 : Int32)), .val (.int (u1.toInt8.toInt32)), .val (.int (u2.toInt8.toInt32)), .val (.int (u3.toInt8.toInt32)), .val (.ref b63), .val (.ref bq67)] [(.int (1 : Int32)), (.ref b63)]))
    obtain ⟨cl74, Ar74, -, Sz74, Nn74, Hs74, -⟩ := id z67_V_b63
    have hin74 : ¬ ((1 : Int32) < 0 ∨ cl74.slots.size ≤ ((1 : Int32)).toNatClampNeg) := inb_of Sz74 ⟨(by decide : ¬ ((1 : Int32) < (0 : Int32))), (by decide : (1 : Int32) < (3 : Int32))⟩
    have hat74 : cl74.slots[((1 : Int32)).toNatClampNeg]? = some (.int (u2.toInt8.toInt32)) := Hs74.at hin74 rfl
    refine own_st (X67.baloadBytes hx (j := (1 : Int32)) (v := (.int (u2.toInt8.toInt32))) Ar74.1 (State.isArrayOf_alike hZ.alike Ar74.2.1) Ar74.2.2 hin74 hat74 (g := (mkF m 187 #[.val (.int u0), .val (.int u1), .val (.int u2), .val (.int u3), .val (.int (3 : Int32)), .val (.int (u1.toInt8.toInt32)), .val (.int (u2.toInt8.toInt32)), .val (.int (u3.toInt8.toInt32)), .val (.ref b63), .val (.ref bq67)] [(.int (1 : Int32)), (.ref b63)])) rfl rfl (hb hby at_187)) ?_
    show own_Go _ _ _ _ (T67.setTop (mkF m 188 #[.val (.int u0), .val (.int u1), .val (.int u2), .val (.int u3), .val (.int (3 : Int32)), .val (.int (u1.toInt8.toInt32)), .val (.int (u2.toInt8.toInt32)), .val (.int (u3.toInt8.toInt32)), .val (.ref b63), .val (.ref bq67)] [(.int (u2.toInt8.toInt32))]))
    refine own_st (fun _ k => XS.iload X67.here hx rfl (hb hby at_188) rfl k) ?_
    show own_Go _ _ _ _ (T67.setTop (mkF m 190 #[.val (.int u0), .val (.int u1), .val (.int u2), .val (.int u3), .val (.int (3 : Int32)), .val (.int (u1.toInt8.toInt32)), .val (.int (u2.toInt8.toInt32)), .val (.int (u3.toInt8.toInt32)), .val (.ref b63), .val (.ref bq67)] [(.int (u2.toInt8.toInt32)), (.int (u2.toInt8.toInt32))]))
    refine own_st (fun _ k => XS.icmpYes X67.here hx rfl (pc0 := 190) (pc' := 195) rfl (hb hby at_190) rfl (teq (rfl : (u2.toInt8.toInt32) = (u2.toInt8.toInt32))).1 (by decide) (by decide) k) ?_
    show own_Go _ _ _ _ (T67.setTop (mkF m 195 #[.val (.int u0), .val (.int u1), .val (.int u2), .val (.int u3), .val (.int (3 : Int32)), .val (.int (u1.toInt8.toInt32)), .val (.int (u2.toInt8.toInt32)), .val (.int (u3.toInt8.toInt32)), .val (.ref b63), .val (.ref bq67)] []))
    refine own_st (fun _ k => XS.iload X67.here hx rfl (hb hby at_195) rfl k) ?_
    show own_Go _ _ _ _ (T67.setTop (mkF m 197 #[.val (.int u0), .val (.int u1), .val (.int u2), .val (.int u3), .val (.int (3 : Int32)), .val (.int (u1.toInt8.toInt32)), .val (.int (u2.toInt8.toInt32)), .val (.int (u3.toInt8.toInt32)), .val (.ref b63), .val (.ref bq67)] [(.int (3 : Int32))]))
    refine own_st (fun _ k => XS.iconst X67.here hx rfl (hb hby at_197) k) ?_
    show own_Go _ _ _ _ (T67.setTop (mkF m 198 #[.val (.int u0), .val (.int u1), .val (.int u2), .val (.int u3), .val (.int (3 : Int32)), .val (.int (u1.toInt8.toInt32)), .val (.int (u2.toInt8.toInt32)), .val (.int (u3.toInt8.toInt32)), .val (.ref b63), .val (.ref bq67)] [(.int (2 : Int32)), (.int (3 : Int32))]))
    refine own_st (fun _ k => XS.icmpNo X67.here hx rfl (hb hby at_198) rfl (tlt (by decide : ((2 : Int32) < (3 : Int32)))).2.2.2 k) ?_
    show own_Go _ _ _ _ (T67.setTop (mkF m 201 #[.val (.int u0), .val (.int u1), .val (.int u2), .val (.int u3), .val (.int (3 : Int32)), .val (.int (u1.toInt8.toInt32)), .val (.int (u2.toInt8.toInt32)), .val (.int (u3.toInt8.toInt32)), .val (.ref b63), .val (.ref bq67)] []))
    refine own_st (fun _ k => XS.aload X67.here hx rfl (hb hby at_201) rfl rfl k) ?_
    show own_Go _ _ _ _ (T67.setTop (mkF m 203 #[.val (.int u0), .val (.int u1), .val (.int u2), .val (.int u3), .val (.int (3 : Int32)), .val (.int (u1.toInt8.toInt32)), .val (.int (u2.toInt8.toInt32)), .val (.int (u3.toInt8.toInt32)), .val (.ref b63), .val (.ref bq67)] [(.ref bq67)]))
    refine own_st (fun _ k => XS.iconst X67.here hx rfl (hb hby at_203) k) ?_
    show own_Go _ _ _ _ (T67.setTop (mkF m 204 #[.val (.int u0), .val (.int u1), .val (.int u2), .val (.int u3), .val (.int (3 : Int32)), .val (.int (u1.toInt8.toInt32)), .val (.int (u2.toInt8.toInt32)), .val (.int (u3.toInt8.toInt32)), .val (.ref b63), .val (.ref bq67)] [(.int (2 : Int32)), (.ref bq67)]))
    obtain ⟨cl75, Ar75, -, Sz75, Nn75, Hs75, -⟩ := id Vq67
    have hin75 : ¬ ((2 : Int32) < 0 ∨ cl75.slots.size ≤ ((2 : Int32)).toNatClampNeg) := inb_of Sz75 ⟨(by decide : ¬ ((2 : Int32) < (0 : Int32))), (by decide : (2 : Int32) < (4 : Int32))⟩
    have hat75 : cl75.slots[((2 : Int32)).toNatClampNeg]? = some (.int (u3.toInt8.toInt32)) := Hs75.at hin75 rfl
    refine own_st (X67.baloadBytes hx (j := (2 : Int32)) (v := (.int (u3.toInt8.toInt32))) Ar75.1 (State.isArrayOf_alike hZ.alike Ar75.2.1) Ar75.2.2 hin75 hat75 (g := (mkF m 204 #[.val (.int u0), .val (.int u1), .val (.int u2), .val (.int u3), .val (.int (3 : Int32)), .val (.int (u1.toInt8.toInt32)), .val (.int (u2.toInt8.toInt32)), .val (.int (u3.toInt8.toInt32)), .val (.ref b63), .val (.ref bq67)] [(.int (2 : Int32)), (.ref bq67)])) rfl rfl (hb hby at_204)) ?_
    show own_Go _ _ _ _ (T67.setTop (mkF m 205 #[.val (.int u0), .val (.int u1), .val (.int u2), .val (.int u3), .val (.int (3 : Int32)), .val (.int (u1.toInt8.toInt32)), .val (.int (u2.toInt8.toInt32)), .val (.int (u3.toInt8.toInt32)), .val (.ref b63), .val (.ref bq67)] [(.int (u3.toInt8.toInt32))]))
    refine own_st (fun _ k => XS.iload X67.here hx rfl (hb hby at_205) rfl k) ?_
    show own_Go _ _ _ _ (T67.setTop (mkF m 207 #[.val (.int u0), .val (.int u1), .val (.int u2), .val (.int u3), .val (.int (3 : Int32)), .val (.int (u1.toInt8.toInt32)), .val (.int (u2.toInt8.toInt32)), .val (.int (u3.toInt8.toInt32)), .val (.ref b63), .val (.ref bq67)] [(.int (u3.toInt8.toInt32)), (.int (u3.toInt8.toInt32))]))
    refine own_st (fun _ k => XS.icmpNo X67.here hx rfl (hb hby at_207) rfl (teq (rfl : (u3.toInt8.toInt32) = (u3.toInt8.toInt32))).2 k) ?_
    show own_Go _ _ _ _ (T67.setTop (mkF m 210 #[.val (.int u0), .val (.int u1), .val (.int u2), .val (.int u3), .val (.int (3 : Int32)), .val (.int (u1.toInt8.toInt32)), .val (.int (u2.toInt8.toInt32)), .val (.int (u3.toInt8.toInt32)), .val (.ref b63), .val (.ref bq67)] []))
    refine own_st (fun _ k => XS.aload X67.here hx rfl (hb hby at_210) rfl rfl k) ?_
    show own_Go _ _ _ _ (T67.setTop (mkF m 212 #[.val (.int u0), .val (.int u1), .val (.int u2), .val (.int u3), .val (.int (3 : Int32)), .val (.int (u1.toInt8.toInt32)), .val (.int (u2.toInt8.toInt32)), .val (.int (u3.toInt8.toInt32)), .val (.ref b63), .val (.ref bq67)] [(.ref b63)]))
    refine own_st (fun _ k => XS.iconst X67.here hx rfl (hb hby at_212) k) ?_
    show own_Go _ _ _ _ (T67.setTop (mkF m 213 #[.val (.int u0), .val (.int u1), .val (.int u2), .val (.int u3), .val (.int (3 : Int32)), .val (.int (u1.toInt8.toInt32)), .val (.int (u2.toInt8.toInt32)), .val (.int (u3.toInt8.toInt32)), .val (.ref b63), .val (.ref bq67)] [(.int (2 : Int32)), (.ref b63)]))
    obtain ⟨cl76, Ar76, -, Sz76, Nn76, Hs76, -⟩ := id z67_V_b63
    have hin76 : ¬ ((2 : Int32) < 0 ∨ cl76.slots.size ≤ ((2 : Int32)).toNatClampNeg) := inb_of Sz76 ⟨(by decide : ¬ ((2 : Int32) < (0 : Int32))), (by decide : (2 : Int32) < (3 : Int32))⟩
    have hat76 : cl76.slots[((2 : Int32)).toNatClampNeg]? = some (.int (u3.toInt8.toInt32)) := Hs76.at hin76 rfl
    refine own_st (X67.baloadBytes hx (j := (2 : Int32)) (v := (.int (u3.toInt8.toInt32))) Ar76.1 (State.isArrayOf_alike hZ.alike Ar76.2.1) Ar76.2.2 hin76 hat76 (g := (mkF m 213 #[.val (.int u0), .val (.int u1), .val (.int u2), .val (.int u3), .val (.int (3 : Int32)), .val (.int (u1.toInt8.toInt32)), .val (.int (u2.toInt8.toInt32)), .val (.int (u3.toInt8.toInt32)), .val (.ref b63), .val (.ref bq67)] [(.int (2 : Int32)), (.ref b63)])) rfl rfl (hb hby at_213)) ?_
    show own_Go _ _ _ _ (T67.setTop (mkF m 214 #[.val (.int u0), .val (.int u1), .val (.int u2), .val (.int u3), .val (.int (3 : Int32)), .val (.int (u1.toInt8.toInt32)), .val (.int (u2.toInt8.toInt32)), .val (.int (u3.toInt8.toInt32)), .val (.ref b63), .val (.ref bq67)] [(.int (u3.toInt8.toInt32))]))
    refine own_st (fun _ k => XS.iload X67.here hx rfl (hb hby at_214) rfl k) ?_
    show own_Go _ _ _ _ (T67.setTop (mkF m 216 #[.val (.int u0), .val (.int u1), .val (.int u2), .val (.int u3), .val (.int (3 : Int32)), .val (.int (u1.toInt8.toInt32)), .val (.int (u2.toInt8.toInt32)), .val (.int (u3.toInt8.toInt32)), .val (.ref b63), .val (.ref bq67)] [(.int (u3.toInt8.toInt32)), (.int (u3.toInt8.toInt32))]))
    refine own_st (fun _ k => XS.icmpYes X67.here hx rfl (pc0 := 216) (pc' := 221) rfl (hb hby at_216) rfl (teq (rfl : (u3.toInt8.toInt32) = (u3.toInt8.toInt32))).1 (by decide) (by decide) k) ?_
    show own_Go _ _ _ _ (T67.setTop (mkF m 221 #[.val (.int u0), .val (.int u1), .val (.int u2), .val (.int u3), .val (.int (3 : Int32)), .val (.int (u1.toInt8.toInt32)), .val (.int (u2.toInt8.toInt32)), .val (.int (u3.toInt8.toInt32)), .val (.ref b63), .val (.ref bq67)] []))
    refine own_st (fun _ k => XS.iconst X67.here hx rfl (hb hby at_221) k) ?_
    show own_Go _ _ _ _ (T67.setTop (mkF m 222 #[.val (.int u0), .val (.int u1), .val (.int u2), .val (.int u3), .val (.int (3 : Int32)), .val (.int (u1.toInt8.toInt32)), .val (.int (u2.toInt8.toInt32)), .val (.int (u3.toInt8.toInt32)), .val (.ref b63), .val (.ref bq67)] [(.int (1 : Int32))]))
    obtain ⟨fs, hr, hrun, hended, hW, hsame⟩ := X67.leave (v := some (.int (1 : Int32))) (fun h => by rw [Bd.returns] at h; cases h)
    refine own_out (retN X67 hx (t := .boolean) Bd.returns (by simp) (hb hby at_222) hr) ⟨hrun, hended, _, _, rfl, ?_, ⟨_, rfl⟩, hW, hsame.mono (by decide) (by decide)⟩
    show Q0 Z u0 u1 u2 u3 h0 n0 _ T67.heap _
    exact ⟨rfl, N67⟩
set_option maxRecDepth 65536 in
set_option maxHeartbeats 40000000 in
theorem comes_1 {Post : Tables → Env → Array Value → State → Outcome → State → Prop} (hpost : ∀ tb e args s v u, (limb_1_1.after args s (.returned v) u = true ∧ limb_1_2.after args s (.returned v) u = true ∧ True) → FrameEnd s (.returned v) u (Jvm.fieldLocs frame_1_writes args s ++ Jvm.arrayLocs frame_1_arrays args s ++ Jvm.staticLocs frame_1_statics s) 16 128 → Post tb e args s (.returned v) u) :
    ArmFor flags0 classFile x code maxLocals ret World_1 tables_1 room_1 Calls_1 rest_1 Pre_1 Post := by
  intro l hfl _ _ p e ha hc hk s m args below hf hA hF happ hP
  obtain ⟨hcalls, hrest, hpre⟩ := hP
  obtain ⟨-, -, -, hnamed, -, -, -, hat⟩ := (Spec.applies_iff hf).mp happ
  obtain ⟨hg, hn⟩ := and_e (Cond.before_iff.mp (show (Jvm.Cond.and given_1 narrow_1).before args s = true from hpre))
  obtain ⟨h1, h2⟩ := and_e hg
  obtain ⟨ha0, h2⟩ := and_e h2
  obtain ⟨ha1, h2⟩ := and_e h2
  obtain ⟨ha2, h2⟩ := and_e h2
  have ha3 := h2
  obtain ⟨w0, w1, w2, w3, rfl⟩ : ∃ w0 w1 w2 w3 : Value, args = #[w0, w1, w2, w3] := by
    have hs : args.size = 4 := by simpa [Cond.value, given_1] using h1
    obtain ⟨L⟩ := args
    match L, hs with
    | [w0, w1, w2, w3], _ => exact ⟨w0, w1, w2, w3, rfl⟩
  have hw := fun d (hd : d ∈ tables_1) => atoms_spec (ws := Jvm.Cond.code x code maxLocals ret :: tables_1) hat d (List.mem_cons_of_mem _ hd)
  obtain ⟨i0, ei0⟩ := is_v ha0
  obtain rfl : w0 = (.int i0) := Option.some.inj ei0
  obtain ⟨i1, ei1⟩ := is_v ha1
  obtain rfl : w1 = (.int i1) := Option.some.inj ei1
  obtain ⟨i2, ei2⟩ := is_v ha2
  obtain rfl : w2 = (.int i2) := Option.some.inj ei2
  obtain ⟨i3, ei3⟩ := is_v ha3
  obtain rfl : w3 = (.int i3) := Option.some.inj ei3
  obtain ⟨n, o, h1, h2, h3, _, L, rfl, ⟨rfl, N⟩, hq⟩ := rm0 l s _ hw tables_1 i0 i1 i2 i3 s.heap s.heap.size (Nat.le_refl _)  p e ha hc hk s m _ below hf ((Spec.applies_iff_loose hf).mp happ).1 ⟨rfl, State.Warmed39.refl s, rfl⟩ trivial
  refine ⟨n, _, h1, h2, h3, hpost _ _ _ _ _ _ ⟨Cond.after_iff.mpr rfl, Cond.after_iff.mpr (eq_i res_at (Term.int_eval (1)) rfl), trivial⟩ ⟨hq.1, hq.2.1, (hq.2.2.sift fun y hy => Or.inr (N y hy)).mono (by decide) (by decide)⟩⟩
theorem main_1_1 : Claimed_1_1 := comes_1 fun _ _ _ _ _ _ h hF => ⟨h.1, hF⟩
theorem main_1_2 : Claimed_1_2 := comes_1 fun _ _ _ _ _ _ h hF => ⟨h.2.1, hF⟩
end Jvm.Pilot.@@N@@
namespace Jvm.Pilot.@@N@@
open Jvm Jvm.ClassFile Sem Op Lib Jvm.Free Jvm.Stand Jvm.Pilot.@@N@@.Jvm.D
/-! MADE BY PROGRAM (witnessworld.py) out of the Statement's table words and the real class files: 12 classes; the members and pool entries that the words name. The judged class is class 1, her method 1. -/
namespace start1
open Jvm.ClassFile
def u (s : String) : CpInfo := .utf8 (stringToUtf16 s)
/-- a pool by its gaps: so many unusable entries, then the entry; so many at the end -/
def gap : Nat → List CpInfo → List CpInfo
  | 0, r => r
  | n + 1, r => .unusable :: gap n r
def poolList (es : List (Nat × CpInfo)) (last : Nat) : List CpInfo := es.foldr (fun e r => gap e.1 (e.2 :: r)) (gap last [])
def pool (es : List (Nat × CpInfo)) (last : Nat) : Array CpInfo := ⟨poolList es last⟩
def fileOf (pool : Array CpInfo) (this : Nat) (attrs : Array Attribute := #[]) (ms : Array MethodInfo := #[]) (fl : Nat := 33) (sup : Nat := 0) (ifs : Array Nat := #[]) (fds : Array FieldInfo := #[]) : ClassFile where
  minorVersion := 0
  majorVersion := 65
  constantPool := pool
  accessFlags := fl
  thisClass := this
  superClass := sup
  interfaces := ifs
  fields := fds
  methods := ms
  attributes := attrs
def plain (name : String) (sup : Option ClassId) : Class where
  name := name
  kind := .ordinary
  loader := none
  accessFlags := 33
  super := sup
  interfaces := #[]
  cf := none
  fields := #[]
  methods := #[]
  instanceTypes := #[]
  staticTypes := #[]
  resolved := #[]
  callSites := []
  init := .initialized
  statics := none
  mirror := none

def pool0 : Array CpInfo := pool [(5, u "<init>"), (0, u "()V"), (1, .class_ 10), (1, u "java/lang/Object")] 113

def k0m0 : Method := { name := "<init>", desc := "()V", sig := { parameters := [], returnType := none }, accessFlags := 1, code := none }
/-- java/lang/Object -/
def k0 : Class := { plain "java/lang/Object" none with
  accessFlags := 33
  interfaces := #[]
  cf := some (fileOf pool0 8 #[] #[{ accessFlags := 1, nameIndex := 5, descriptorIndex := 6, attributes := #[] }] 33 0 #[] #[])
  fields := #[]
  methods := #[k0m0]
  instanceTypes := #[]
  staticTypes := #[]
  resolved := Array.replicate 124 none
  statics := none }

def pool1 : Array CpInfo := pool [(2, .class_ 4), (1, u "java/lang/Object"), (0, u "<init>"), (0, u "()V"), (0, .methodref 8 9), (0, .class_ 10), (0, .nameAndType 11 12), (0, u "com/example/outlay/outlay/GitPath"), (0, u "endBelow"), (0, u "([B)[B"), (0, .class_ 14), (0, u "com/example/outlay/outlay/GitPathEndBelowPinLaw"), (2, u "law"), (0, u "(IIII)Z")] 5

def k1m0 : Method := { name := "<init>", desc := "()V", sig := { parameters := [], returnType := none }, accessFlags := 1, code := none }
def k1c1 : Code := { maxStack := 4, maxLocals := 10, code := code, exceptionTable := #[], attributes := #[] }
def k1m1 : Method := { name := "law", desc := "(IIII)Z", sig := { parameters := [.int, .int, .int, .int], returnType := some .boolean }, accessFlags := 9, code := some k1c1 }
/-- com/example/outlay/outlay/GitPathEndBelowPinLaw -/
def k1 : Class := { plain "com/example/outlay/outlay/GitPathEndBelowPinLaw" (some 0) with
  accessFlags := 49
  interfaces := #[]
  cf := some (fileOf pool1 13 #[] #[{ accessFlags := 1, nameIndex := 5, descriptorIndex := 6, attributes := #[] }, { accessFlags := 9, nameIndex := 17, descriptorIndex := 18, attributes := #[] }] 49 2 #[] #[])
  fields := #[]
  methods := #[k1m0, k1m1]
  instanceTypes := #[]
  staticTypes := #[]
  resolved := Array.replicate 24 none
  statics := none }

def pool2 : Array CpInfo := pool [(2, .class_ 4), (1, u "java/lang/Object"), (0, u "<init>"), (0, u "()V"), (39, .methodref 47 48), (0, .class_ 49), (0, .nameAndType 50 51), (0, u "java/util/Arrays"), (0, u "copyOf"), (0, u "([BI)[B"), (13, .class_ 66), (0, u "com/example/outlay/outlay/GitPath"), (26, u "FILE_MODE"), (0, u "Ljava/lang/String;"), (3, u "RULE"), (2, u "ESCAPES"), (0, u "ESCAPED"), (14, u "([B)[B"), (0, u "endBelow")] 7

def k2m0 : Method := { name := "<init>", desc := "()V", sig := { parameters := [], returnType := none }, accessFlags := 2, code := none }
def k2c1 : Code := { maxStack := 3, maxLocals := 2, code := prog_7_method_6_code, exceptionTable := #[], attributes := #[] }
def k2m1 : Method := { name := "endBelow", desc := "([B)[B", sig := { parameters := [(.array .byte)], returnType := some (.array .byte) }, accessFlags := 8, code := some k2c1 }
/-- com/example/outlay/outlay/GitPath -/
def k2 : Class := { plain "com/example/outlay/outlay/GitPath" (some 0) with
  accessFlags := 32
  interfaces := #[]
  cf := some (fileOf pool2 65 #[] #[{ accessFlags := 2, nameIndex := 5, descriptorIndex := 6, attributes := #[] }, { accessFlags := 8, nameIndex := 118, descriptorIndex := 117, attributes := #[] }] 32 2 #[] #[{ accessFlags := 24, nameIndex := 93, descriptorIndex := 94, attributes := #[] }, { accessFlags := 24, nameIndex := 98, descriptorIndex := 94, attributes := #[] }, { accessFlags := 26, nameIndex := 101, descriptorIndex := 94, attributes := #[] }, { accessFlags := 26, nameIndex := 102, descriptorIndex := 94, attributes := #[] }])
  fields := #[{ name := "FILE_MODE", type := (.object "java/lang/String"), accessFlags := 24, slot := 0, constantValue := 0 }, { name := "RULE", type := (.object "java/lang/String"), accessFlags := 24, slot := 1, constantValue := 0 }, { name := "ESCAPES", type := (.object "java/lang/String"), accessFlags := 26, slot := 2, constantValue := 0 }, { name := "ESCAPED", type := (.object "java/lang/String"), accessFlags := 26, slot := 3, constantValue := 0 }]
  methods := #[k2m0, k2m1]
  instanceTypes := #[]
  staticTypes := #[(.object "java/lang/String"), (.object "java/lang/String"), (.object "java/lang/String"), (.object "java/lang/String")]
  resolved := Array.replicate 126 none
  statics := none }

def pool3 : Array CpInfo := pool [(2, .class_ 4), (1, u "java/lang/Object"), (0, u "<init>"), (0, u "()V"), (7, .class_ 16), (1, u "java/util/Arrays"), (57, .class_ 76), (1, u "java/util/Arrays$NaturalOrder"), (36, .class_ 115), (1, u "java/util/Arrays$LegacyMergeSort"), (1, u "Z"), (32, .methodref 151 152), (0, .class_ 153), (0, .nameAndType 154 155), (0, u "java/lang/System"), (0, u "arraycopy"), (0, u "(Ljava/lang/Object;ILjava/lang/Object;II)V"), (146, u "copyOf"), (1, .methodref 305 306), (0, .class_ 307), (0, .nameAndType 308 309), (0, u "java/lang/Math"), (0, u "min"), (0, u "(II)I"), (65, .class_ 376), (0, u "java/util/Arrays$ArrayList"), (68, u "$assertionsDisabled"), (269, u "MIN_ARRAY_SORT_GRAN"), (0, u "I"), (2, u "INSERTIONSORT_THRESHOLD"), (149, u "([BI)[B"), (105, .class_ 976), (0, u "java/util/Arrays$ArrayItr")] 52

def k3m0 : Method := { name := "<init>", desc := "()V", sig := { parameters := [], returnType := none }, accessFlags := 2, code := none }
def k3c1 : Code := { maxStack := 6, maxLocals := 3, code := jdk_65_method_121_code, exceptionTable := #[], attributes := #[] }
def k3m1 : Method := { name := "copyOf", desc := "([BI)[B", sig := { parameters := [(.array .byte), .int], returnType := some (.array .byte) }, accessFlags := 9, code := some k3c1 }
/-- java/util/Arrays -/
def k3 : Class := { plain "java/util/Arrays" (some 0) with
  accessFlags := 49
  interfaces := #[]
  cf := some (fileOf pool3 14 #[.nestMembers #[975, 375, 113, 74]] #[{ accessFlags := 2, nameIndex := 5, descriptorIndex := 6, attributes := #[] }, { accessFlags := 9, nameIndex := 302, descriptorIndex := 869, attributes := #[] }] 49 2 #[] #[{ accessFlags := 26, nameIndex := 715, descriptorIndex := 716, attributes := #[] }, { accessFlags := 26, nameIndex := 719, descriptorIndex := 716, attributes := #[] }, { accessFlags := 4120, nameIndex := 445, descriptorIndex := 117, attributes := #[] }])
  fields := #[{ name := "MIN_ARRAY_SORT_GRAN", type := .int, accessFlags := 26, slot := 0, constantValue := 0 }, { name := "INSERTIONSORT_THRESHOLD", type := .int, accessFlags := 26, slot := 1, constantValue := 0 }, { name := "$assertionsDisabled", type := .boolean, accessFlags := 4120, slot := 2, constantValue := 0 }]
  methods := #[k3m0, k3m1]
  instanceTypes := #[]
  staticTypes := #[.int, .int, .boolean]
  resolved := Array.replicate 1029 none
  statics := none }

def pool4 : Array CpInfo := pool [(1, .class_ 2), (0, u "java/lang/Math"), (1, .class_ 6), (1, u "java/lang/Object"), (0, u "<init>"), (0, u "()V"), (89, .class_ 100), (1, u "java/lang/Math$RandomNumberGeneratorHolder"), (71, u "negativeZeroFloatBits"), (0, u "J"), (2, u "negativeZeroDoubleBits"), (24, u "min"), (43, u "$assertionsDisabled"), (0, u "Z"), (88, u "(II)I"), (2, u "twoToTheDoubleScaleDown"), (0, u "D"), (4, u "twoToTheDoubleScaleUp"), (9, u "E"), (3, u "PI"), (2, u "TAU"), (2, u "DEGREES_TO_RADIANS"), (0, u "RADIANS_TO_DEGREES")] 94

def k4m0 : Method := { name := "<init>", desc := "()V", sig := { parameters := [], returnType := none }, accessFlags := 2, code := none }
def k4c1 : Code := { maxStack := 2, maxLocals := 2, code := jdk_29_method_69_code, exceptionTable := #[], attributes := #[] }
def k4m1 : Method := { name := "min", desc := "(II)I", sig := { parameters := [.int, .int], returnType := some .int }, accessFlags := 9, code := some k4c1 }
/-- java/lang/Math -/
def k4 : Class := { plain "java/lang/Math" (some 0) with
  accessFlags := 49
  interfaces := #[]
  cf := some (fileOf pool4 1 #[.nestMembers #[98]] #[{ accessFlags := 2, nameIndex := 7, descriptorIndex := 8, attributes := #[] }, { accessFlags := 9, nameIndex := 201, descriptorIndex := 335, attributes := #[] }] 49 4 #[] #[{ accessFlags := 25, nameIndex := 354, descriptorIndex := 339, attributes := #[] }, { accessFlags := 25, nameIndex := 358, descriptorIndex := 339, attributes := #[] }, { accessFlags := 25, nameIndex := 361, descriptorIndex := 339, attributes := #[] }, { accessFlags := 26, nameIndex := 364, descriptorIndex := 339, attributes := #[] }, { accessFlags := 26, nameIndex := 365, descriptorIndex := 339, attributes := #[] }, { accessFlags := 26, nameIndex := 172, descriptorIndex := 173, attributes := #[] }, { accessFlags := 26, nameIndex := 176, descriptorIndex := 173, attributes := #[] }, { accessFlags := 8, nameIndex := 344, descriptorIndex := 339, attributes := #[] }, { accessFlags := 8, nameIndex := 338, descriptorIndex := 339, attributes := #[] }, { accessFlags := 4120, nameIndex := 245, descriptorIndex := 246, attributes := #[] }])
  fields := #[{ name := "E", type := .double, accessFlags := 25, slot := 0, constantValue := 0 }, { name := "PI", type := .double, accessFlags := 25, slot := 1, constantValue := 0 }, { name := "TAU", type := .double, accessFlags := 25, slot := 2, constantValue := 0 }, { name := "DEGREES_TO_RADIANS", type := .double, accessFlags := 26, slot := 3, constantValue := 0 }, { name := "RADIANS_TO_DEGREES", type := .double, accessFlags := 26, slot := 4, constantValue := 0 }, { name := "negativeZeroFloatBits", type := .long, accessFlags := 26, slot := 5, constantValue := 0 }, { name := "negativeZeroDoubleBits", type := .long, accessFlags := 26, slot := 6, constantValue := 0 }, { name := "twoToTheDoubleScaleUp", type := .double, accessFlags := 8, slot := 7, constantValue := 0 }, { name := "twoToTheDoubleScaleDown", type := .double, accessFlags := 8, slot := 8, constantValue := 0 }, { name := "$assertionsDisabled", type := .boolean, accessFlags := 4120, slot := 9, constantValue := 0 }]
  methods := #[k4m0, k4m1]
  instanceTypes := #[]
  staticTypes := #[.double, .double, .double, .double, .double, .long, .long, .double, .double, .boolean]
  resolved := Array.replicate 460 none
  statics := none }

def pool5 : Array CpInfo := pool [(2, .class_ 4), (1, u "java/lang/Object"), (0, u "<init>"), (0, u "()V"), (1, .class_ 10), (1, u "java/lang/System"), (0, u "allowSecurityManager"), (0, u "I"), (16, u "cons"), (0, u "Ljava/io/Console;"), (77, .class_ 110), (1, u "java/lang/System$CallersHolder"), (43, u "initialErrStream"), (0, u "Ljava/io/PrintStream;"), (19, u "security"), (0, u "Ljava/lang/SecurityManager;"), (31, .class_ 209), (0, u "java/lang/System$1"), (7, u "props"), (0, u "Ljava/util/Properties;"), (2, u "lineSeparator"), (0, u "Ljava/lang/String;"), (96, .class_ 321), (1, u "java/lang/System$LoggerFinder"), (5, .class_ 328), (0, u "java/lang/System$Logger"), (67, u "err"), (2, u "out"), (91, u "notSupportedJnuEncoding"), (15, u "in"), (17, u "initialIn"), (0, u "Ljava/io/InputStream;"), (35, u "bootLayer"), (0, u "Ljava/lang/ModuleLayer;"), (99, .class_ 664), (0, u "java/lang/System$2"), (9, u "NEVER"), (2, u "MAYBE"), (49, u "arraycopy"), (0, u "(Ljava/lang/Object;ILjava/lang/Object;II)V"), (72, .class_ 802), (0, u "java/lang/System$Logger$Level")] 31

def k5m0 : Method := { name := "<init>", desc := "()V", sig := { parameters := [], returnType := none }, accessFlags := 2, code := none }
def k5m1 : Method := { name := "arraycopy", desc := "(Ljava/lang/Object;ILjava/lang/Object;II)V", sig := { parameters := [(.object "java/lang/Object"), .int, (.object "java/lang/Object"), .int, .int], returnType := none }, accessFlags := 265, code := none }
/-- java/lang/System -/
def k5 : Class := { plain "java/lang/System" (some 0) with
  accessFlags := 49
  interfaces := #[]
  cf := some (fileOf pool5 8 #[.nestMembers #[319, 327, 801, 108, 663, 208]] #[{ accessFlags := 2, nameIndex := 5, descriptorIndex := 6, attributes := #[] }, { accessFlags := 265, nameIndex := 727, descriptorIndex := 728, attributes := #[] }] 49 2 #[] #[{ accessFlags := 25, nameIndex := 507, descriptorIndex := 526, attributes := #[] }, { accessFlags := 25, nameIndex := 399, descriptorIndex := 155, attributes := #[] }, { accessFlags := 25, nameIndex := 396, descriptorIndex := 155, attributes := #[] }, { accessFlags := 10, nameIndex := 525, descriptorIndex := 526, attributes := #[] }, { accessFlags := 26, nameIndex := 674, descriptorIndex := 12, attributes := #[] }, { accessFlags := 26, nameIndex := 677, descriptorIndex := 12, attributes := #[] }, { accessFlags := 10, nameIndex := 11, descriptorIndex := 12, attributes := #[] }, { accessFlags := 74, nameIndex := 175, descriptorIndex := 176, attributes := #[] }, { accessFlags := 10, nameIndex := 491, descriptorIndex := 222, attributes := #[] }, { accessFlags := 74, nameIndex := 29, descriptorIndex := 30, attributes := #[] }, { accessFlags := 74, nameIndex := 154, descriptorIndex := 155, attributes := #[] }, { accessFlags := 10, nameIndex := 217, descriptorIndex := 218, attributes := #[] }, { accessFlags := 10, nameIndex := 221, descriptorIndex := 222, attributes := #[] }, { accessFlags := 8, nameIndex := 562, descriptorIndex := 563, attributes := #[] }])
  fields := #[{ name := "in", type := (.object "java/io/InputStream"), accessFlags := 25, slot := 0, constantValue := 0 }, { name := "out", type := (.object "java/io/PrintStream"), accessFlags := 25, slot := 1, constantValue := 0 }, { name := "err", type := (.object "java/io/PrintStream"), accessFlags := 25, slot := 2, constantValue := 0 }, { name := "initialIn", type := (.object "java/io/InputStream"), accessFlags := 10, slot := 3, constantValue := 0 }, { name := "NEVER", type := .int, accessFlags := 26, slot := 4, constantValue := 0 }, { name := "MAYBE", type := .int, accessFlags := 26, slot := 5, constantValue := 0 }, { name := "allowSecurityManager", type := .int, accessFlags := 10, slot := 6, constantValue := 0 }, { name := "security", type := (.object "java/lang/SecurityManager"), accessFlags := 74, slot := 7, constantValue := 0 }, { name := "notSupportedJnuEncoding", type := (.object "java/lang/String"), accessFlags := 10, slot := 8, constantValue := 0 }, { name := "cons", type := (.object "java/io/Console"), accessFlags := 74, slot := 9, constantValue := 0 }, { name := "initialErrStream", type := (.object "java/io/PrintStream"), accessFlags := 74, slot := 10, constantValue := 0 }, { name := "props", type := (.object "java/util/Properties"), accessFlags := 10, slot := 11, constantValue := 0 }, { name := "lineSeparator", type := (.object "java/lang/String"), accessFlags := 10, slot := 12, constantValue := 0 }, { name := "bootLayer", type := (.object "java/lang/ModuleLayer"), accessFlags := 8, slot := 13, constantValue := 0 }]
  methods := #[k5m0, k5m1]
  instanceTypes := #[]
  staticTypes := #[(.object "java/io/InputStream"), (.object "java/io/PrintStream"), (.object "java/io/PrintStream"), (.object "java/io/InputStream"), .int, .int, .int, (.object "java/lang/SecurityManager"), (.object "java/lang/String"), (.object "java/io/Console"), (.object "java/io/PrintStream"), (.object "java/util/Properties"), (.object "java/lang/String"), (.object "java/lang/ModuleLayer")]
  resolved := Array.replicate 834 none
  statics := none }

def pool6 : Array CpInfo := pool [(1, u "java/lang/Cloneable"), (0, .class_ 1), (0, u "java/lang/Object"), (0, .class_ 3)] 3

/-- java/lang/Cloneable -/
def k6 : Class := { plain "java/lang/Cloneable" (some 0) with
  accessFlags := 1537
  interfaces := #[]
  cf := some (fileOf pool6 2 #[] #[] 1537 4 #[] #[])
  fields := #[]
  methods := #[]
  instanceTypes := #[]
  staticTypes := #[]
  resolved := Array.replicate 8 none
  statics := none }

def pool7 : Array CpInfo := pool [(1, u "java/io/Serializable"), (0, .class_ 1), (0, u "java/lang/Object"), (0, .class_ 3)] 3

/-- java/io/Serializable -/
def k7 : Class := { plain "java/io/Serializable" (some 0) with
  accessFlags := 1537
  interfaces := #[]
  cf := some (fileOf pool7 2 #[] #[] 1537 4 #[] #[])
  fields := #[]
  methods := #[]
  instanceTypes := #[]
  staticTypes := #[]
  resolved := Array.replicate 8 none
  statics := none }

/-- the primitive byte -/
def k8 : Class := { plain "byte" none with kind := .primitive 'B', accessFlags := 0x411 }
/-- [B -/
def k9 : Class := { plain "[B" (some 0) with kind := .array 8 .byte, interfaces := #[6, 7], accessFlags := 1041 }

/-- the primitive int -/
def k10 : Class := { plain "int" none with kind := .primitive 'I', accessFlags := 0x411 }
/-- [I -/
def k11 : Class := { plain "[I" (some 0) with kind := .array 10 .int, interfaces := #[6, 7], accessFlags := 1041 }

def heap : Heap := #[]
def classes : Array Class := #[k0, k1, k2, k3, k4, k5, k6, k7, k8, k9, k10, k11]
def interned : List (Array UInt16 × Addr) := []
def slotsUsed : Nat := 0
def theMethod : MethodId := ⟨1, 1⟩
def args0 : Array Value := #[.int 5, .int 5, .int 5, .int 5]
def aboutOver (below : List Frame) : State where
  vm := { classes := classes, interned := interned.toArray }
  heap := heap
  slotsUsed := slotsUsed
  threads := #[{ frames := .invoking theMethod args0 :: below }]
def below0 : List Frame := [.native { method := ⟨0, 0⟩, args := #[] }]
def about1 : State := aboutOver below0
def p0 : Program := .bare "" "" ""
def e0 : Env := launch0.env 0 0 0
theorem w_frames : about1.frames = Frame.invoking theMethod args0 :: below0 := rfl
set_option maxRecDepth 65536 in
theorem w_args : argsFit about1.vm theMethod args0 = true := by decide +kernel
set_option maxRecDepth 65536 in
theorem w_heap : heapFits about1 = true := by decide +kernel
set_option maxRecDepth 65536 in
theorem w_runnable : about1.curStatus? = some .runnable := by decide +kernel
set_option maxRecDepth 65536 in
theorem w_alone : about1.alone = true := by decide +kernel
set_option maxRecDepth 65536 in
theorem w_named : about1.methodNamed? x = some theMethod := by decide +kernel
set_option maxRecDepth 65536 in
theorem w_hears : about1.hears theMethod below0 = true := by decide +kernel
set_option maxRecDepth 65536 in
theorem w_ripe : about1.ripe theMethod args0 below0 = true := by decide +kernel
theorem w_running : about1.status = .running := rfl
set_option maxRecDepth 65536 in
theorem w_room : about1.hasRoom e0.platform room_1 = true :=
  launch0.hasRoom_least _ room_1 (by decide +kernel) (by decide +kernel) (by decide +kernel) (by decide +kernel) (by decide +kernel) (by decide +kernel)
theorem allAtoms_all (ts : List Jvm.Cond) (a : Array Jvm.Value) (st : Jvm.State) : (allAtoms ts).before a st = ts.all (fun c => c.before a st) := by
  induction ts with
  | nil => rfl
  | cons c t ih =>
    show (Jvm.Cond.and c (allAtoms t)).before a st = _
    rw [Jvm.Cond.before_and, ih, List.all_cons]
def words1 : List Jvm.Cond := Jvm.Cond.code x code maxLocals ret :: tables_1
/-- a 'code' word, met by the world's own term for the bytes: nothing is compared byte by byte -/
theorem code_word {y : MethodName} {bytes : ByteArray} {mx : Nat} {rt : Option FieldType} {a : Array Value} {s : State} {m : MethodId} {meth : Method} {c : Code} (h1 : s.methodNamed? y = some m) (h2 : s.vm.method? m = some meth) (h3 : meth.code = some c) (h4 : c.code = bytes)
    (h5 : (c.maxLocals == mx && c.exceptionTable.isEmpty && decide (c.maxStack ≤ mostOperands) && decide (meth.sig.returnType = rt) && !meth.locks && decide (parseMethodDescriptor y.desc = some meth.sig)) = true) : (Jvm.Cond.code y bytes mx rt).before a s = true := by
  simp only [Bool.and_eq_true, beq_iff_eq, Bool.not_eq_true', decide_eq_true_eq] at h5
  obtain ⟨⟨⟨⟨⟨g1, g2⟩, g3⟩, g4⟩, g5⟩, g6⟩ := h5
  simp [Cond.before, Cond.holds, Cond.value, h1, h2, h3, h4, g1, g2, g3, g4, g5, g6]
def isCode : Jvm.Cond → Bool
  | .code _ _ _ _ => true
  | _ => false
theorem all_split {L : List Jvm.Cond} {P : Jvm.Cond → Bool} (h1 : L.all (fun c => isCode c || P c) = true) (h2 : ∀ c ∈ L.filter isCode, P c = true) : L.all P = true := by
  refine List.all_eq_true.mpr fun c hc => ?_
  have h := List.all_eq_true.mp h1 c hc
  rcases Bool.eq_false_or_eq_true (isCode c) with hi | hi
  · exact h2 c (List.mem_filter.mpr ⟨hc, hi⟩)
  · simpa [hi] using h
set_option maxRecDepth 65536 in
theorem w_c0 : (Jvm.Cond.code x code maxLocals ret).before args0 about1 = true := code_word (m := ⟨1, 1⟩) (meth := k1m1) (c := k1c1) (by decide +kernel) rfl rfl rfl (by decide +kernel)
set_option maxRecDepth 65536 in
theorem w_c1 : (Jvm.Cond.code ({ cls := "com/example/outlay/outlay/GitPath", name := "endBelow", desc := "([B)[B" } : Jvm.MethodName) prog_7_method_6_code (2 : Nat) (Option.some (Jvm.ClassFile.FieldType.array Jvm.ClassFile.FieldType.byte))).before args0 about1 = true := code_word (m := ⟨2, 1⟩) (meth := k2m1) (c := k2c1) (by decide +kernel) rfl rfl rfl (by decide +kernel)
set_option maxRecDepth 65536 in
theorem w_c2 : (Jvm.Cond.code ({ cls := "java/util/Arrays", name := "copyOf", desc := "([BI)[B" } : Jvm.MethodName) jdk_65_method_121_code (3 : Nat) (Option.some (Jvm.ClassFile.FieldType.array Jvm.ClassFile.FieldType.byte))).before args0 about1 = true := code_word (m := ⟨3, 1⟩) (meth := k3m1) (c := k3c1) (by decide +kernel) rfl rfl rfl (by decide +kernel)
set_option maxRecDepth 65536 in
theorem w_c3 : (Jvm.Cond.code ({ cls := "java/lang/Math", name := "min", desc := "(II)I" } : Jvm.MethodName) jdk_29_method_69_code (2 : Nat) (Option.some Jvm.ClassFile.FieldType.int)).before args0 about1 = true := code_word (m := ⟨4, 1⟩) (meth := k4m1) (c := k4c1) (by decide +kernel) rfl rfl rfl (by decide +kernel)
def codes1 : List Jvm.Cond := [Jvm.Cond.code x code maxLocals ret, Jvm.Cond.code ({ cls := "com/example/outlay/outlay/GitPath", name := "endBelow", desc := "([B)[B" } : Jvm.MethodName) prog_7_method_6_code (2 : Nat) (Option.some (Jvm.ClassFile.FieldType.array Jvm.ClassFile.FieldType.byte)), Jvm.Cond.code ({ cls := "java/util/Arrays", name := "copyOf", desc := "([BI)[B" } : Jvm.MethodName) jdk_65_method_121_code (3 : Nat) (Option.some (Jvm.ClassFile.FieldType.array Jvm.ClassFile.FieldType.byte)), Jvm.Cond.code ({ cls := "java/lang/Math", name := "min", desc := "(II)I" } : Jvm.MethodName) jdk_29_method_69_code (2 : Nat) (Option.some Jvm.ClassFile.FieldType.int)]
set_option maxRecDepth 65536 in
theorem codes_eq : words1.filter isCode = codes1 := rfl
theorem w_codes : ∀ c ∈ words1.filter isCode, c.before args0 about1 = true := by
  rw [codes_eq]
  intro c hc
  simp only [codes1, List.mem_cons, List.not_mem_nil, or_false] at hc
  rcases hc with rfl | rfl | rfl | rfl
  · exact w_c0
  · exact w_c1
  · exact w_c2
  · exact w_c3
set_option maxRecDepth 65536 in
theorem w_t1 : words1.all (fun c => isCode c || c.before args0 about1) = true := by decide +kernel
theorem w_tables : (allAtoms (Jvm.Cond.code x code maxLocals ret :: tables_1)).before args0 about1 = true := by
  rw [allAtoms_all]
  show words1.all (fun c => c.before args0 about1) = true
  refine all_split ?_ w_codes
  rw [w_t1]
set_option maxRecDepth 65536 in
theorem w_case : (Jvm.Cond.and given_1 narrow_1).before args0 about1 = true := by decide +kernel
theorem w_applies : (headSpec (Jvm.Cond.code x code maxLocals ret :: tables_1) room_1).applies x e0.platform about1 = true :=
  (Spec.applies_iff w_frames).mpr ⟨w_running, w_runnable, w_alone, w_named, w_hears, w_ripe, w_room, w_tables⟩
theorem atStart : AtStart classFile x code maxLocals ret World_1 tables_1 room_1 Calls_1 rest_1 Pre_1 launch0 p0 e0 about1 theMethod args0 below0 :=
  ⟨lists_1, trivial, launch0.admits_env _ _ _, launch0.least_env, fairChoices_fair.cas, fairChoices_fair.clock, w_frames, w_args, w_heap, w_applies, trivial, trivial, w_case⟩
end start1
theorem witness_1 : WitnessClaimed_1 := ⟨start1.p0, start1.e0, start1.about1, start1.theMethod, start1.args0, start1.below0, start1.atStart⟩
end Jvm.Pilot.@@N@@
