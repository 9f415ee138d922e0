import JvmDerived
import JvmDerived.Pilot.@@N@@Statement
import JvmDerived.Pilot.@@N@@Code
set_option linter.unusedVariables false
set_option linter.unusedSimpArgs false
namespace Jvm.Pilot.@@N@@
open Jvm Jvm.ClassFile Sem Op Lib Jvm.Free Jvm.Stand Jvm.LawKit Jvm.RoadKit Bundle Jvm.Pilot.@@N@@.Jvm.D
def own_Go (tb : Tables) (e : Env) (below : List Frame) (P : State → Outcome → Prop) (A : State) : Prop := ∃ s₂ o, Steps tb e below A s₂ ∧ P s₂ o
theorem own_in {tb : Tables} {e : Env} {below : List Frame} {P : State → Outcome → Prop} {A : State} (h : own_Go tb e below P A) : ∃ s₂ o, Steps tb e below A s₂ ∧ P s₂ o := h
theorem own_st {tb : Tables} {e : Env} {below : List Frame} {P : State → Outcome → Prop} {A B : State} (h : ∀ t, Steps tb e below B t → Steps tb e below A t) (k : own_Go tb e below P B) : own_Go tb e below P A := by
  obtain ⟨s₂, o, h1, h2⟩ := k
  exact ⟨s₂, o, h _ h1, h2⟩
theorem own_tr {tb : Tables} {e : Env} {below : List Frame} {P : State → Outcome → Prop} {A B : State} (h : Steps tb e below A B) (k : own_Go tb e below P B) : own_Go tb e below P A := by
  obtain ⟨s₂, o, h1, h2⟩ := k
  exact ⟨s₂, o, h.trans h1, h2⟩
theorem own_out {tb : Tables} {e : Env} {below : List Frame} {P : State → Outcome → Prop} {A B : State} {o : Outcome} (h : Steps tb e below A B) (k : P B o) : own_Go tb e below P A := ⟨B, o, h, k⟩
theorem own_join {ι : Type} {tb : Tables} {e : Env} {below : List Frame} {P : State → Outcome → Prop} {A : State} (B : ι → State) (K : ι → Prop) (hJ : ∀ b, K b → own_Go tb e below P (B b)) (h : (∀ b, K b → own_Go tb e below P (B b)) → own_Go tb e below P A) : own_Go tb e below P A := h hJ
section Own
variable {p : Program} {l : Launch} {e : Env} {R : Room} {s : State} {m : MethodId} {args : Array Value} {below : List Frame} {meth : Method} {c : Code} {T : State} {locs : List Loc} {cells slots : Nat}
theorem own_retI (X : Stand p l e R s m args below meth c T locs cells slots) (hx : p.tables.exec = Jvm.exec) {pc : Nat} {Ls : Array Slot} {z : Int32} {rest : List Value} (hret : meth.sig.returnType = some .int) (hd : decode c.code pc = .ok (.ireturn, 1)) {fs : List Frame}
    (hl : ∀ (f : JFrame) (acts : List Action), f.method = m → f.locked = none → f.entered = [] → (doReturn e (T.setTop f) acts (some (.int z))).1 = T.setFrames fs) : Steps p.tables e below (T.setTop (mkF m pc Ls (.int z :: rest))) (T.setFrames fs) := by
  have hm' : T.vm.method? m = some meth := X.method'
  have hn : narrow .int (.int z) = .int z := rfl
  show Steps p.tables e below (T.setTop { method := m, pc := pc, locals := Ls, stack := _ :: rest, locked := none }) _
  jvm_step X.here [X.here.top, hx, hd, hm', hret, hn]
  first | (intro acts; rw [hl _ acts rfl rfl rfl]) | rw [hl _ _ rfl rfl rfl]
  exact Steps.refl _
end Own
theorem own_narB (x : Int32) : x.toInt8.toInt32.toInt8.toInt32 = x.toInt8.toInt32 := by simp
theorem own_m4 (u : Int32) : (u &&& (3 : Int32)) = (0 : Int32) ∨ (u &&& (3 : Int32)) = (1 : Int32) ∨ (u &&& (3 : Int32)) = (2 : Int32) ∨ (u &&& (3 : Int32)) = (3 : Int32) := by
  have m := c_mask u 3 2 (by decide) (by decide)
  simp only [← Int32.toInt_inj, Int32.reduceToInt]
  omega
theorem own_m5 (u : Int32) : ((u &&& (2147483647 : Int32)) - ((u &&& (2147483647 : Int32)) / (5 : Int32)) * (5 : Int32)) = (0 : Int32) ∨ ((u &&& (2147483647 : Int32)) - ((u &&& (2147483647 : Int32)) / (5 : Int32)) * (5 : Int32)) = (1 : Int32) ∨ ((u &&& (2147483647 : Int32)) - ((u &&& (2147483647 : Int32)) / (5 : Int32)) * (5 : Int32)) = (2 : Int32) ∨ ((u &&& (2147483647 : Int32)) - ((u &&& (2147483647 : Int32)) / (5 : Int32)) * (5 : Int32)) = (3 : Int32) ∨ ((u &&& (2147483647 : Int32)) - ((u &&& (2147483647 : Int32)) / (5 : Int32)) * (5 : Int32)) = (4 : Int32) := by
  have m := c_mask u 2147483647 31 (by decide) (by decide)
  generalize (u &&& (2147483647 : Int32)) = v at *
  have r := rng32 v
  have d := (c_idiv v 5 5 rfl (by decide)).1 (by omega)
  have h2 := c_imul (v / 5) 5
  have r2 := rng32 ((v / 5) * 5)
  have h3 := c_isub v ((v / 5) * 5)
  have r3 := rng32 (v - (v / 5) * 5)
  simp only [Int32.reduceToInt] at h2
  simp only [← Int32.toInt_inj, Int32.reduceToInt]
  omega
def own_cl (u0 : Int32) : Int32 := (if (u0 &&& (255 : Int32)) = (11 : Int32) then (0 : Int32) else (if (u0 &&& (255 : Int32)) = (28 : Int32) then (0 : Int32) else (1 : Int32)))
theorem d2_0 : decode method_3_code 0 = .ok (.iload_n 0, 1) := by decide +kernel
theorem d2_1 : decode method_3_code 1 = .ok (.sipush 255, 3) := by decide +kernel
theorem d2_4 : decode method_3_code 4 = .ok (.iand, 1) := by decide +kernel
theorem d2_5 : decode method_3_code 5 = .ok (.istore_n 1, 1) := by decide +kernel
theorem d2_6 : decode method_3_code 6 = .ok (.iload_n 1, 1) := by decide +kernel
theorem d2_7 : decode method_3_code 7 = .ok (.bipush 11, 2) := by decide +kernel
theorem d2_9 : decode method_3_code 9 = .ok (.if_icmp .eq 13, 3) := by decide +kernel
theorem d2_12 : decode method_3_code 12 = .ok (.iload_n 1, 1) := by decide +kernel
theorem d2_13 : decode method_3_code 13 = .ok (.bipush 28, 2) := by decide +kernel
theorem d2_15 : decode method_3_code 15 = .ok (.if_icmp .eq 7, 3) := by decide +kernel
theorem d2_18 : decode method_3_code 18 = .ok (.iconst 1, 1) := by decide +kernel
theorem d2_19 : decode method_3_code 19 = .ok (.goto 4, 3) := by decide +kernel
theorem d2_22 : decode method_3_code 22 = .ok (.iconst 0, 1) := by decide +kernel
theorem d2_23 : decode method_3_code 23 = .ok (.ireturn, 1) := by decide +kernel
theorem own_pd0 : parseMethodDescriptor "(B)Z" = some ⟨[.byte], some .boolean⟩ := by decide +kernel
theorem own_pn0 : plainName "quillvax/mllp/MllpCarriesPinLaw" = true := by first | (simp [plainName, overriddenIn]; done) | decide +kernel
def Q2 (Z : State) (u0 : Int32) (h0 : Heap) (n0 : Nat) (v : Option Value) (h : Heap) (L : List Loc) : Prop := v = some (.int (own_cl u0)) ∧ Fr n0 L ∧ h = h0
theorem ef_2 (m : MethodId) (x0 : Int32) : entryFrame m #[(.int x0)] 2 = mkF m 0 #[.val (.int x0), .unset] [] := by first | (simp [entryFrame, mkF, argsToLocals, Value.category]; done) | rfl
set_option maxRecDepth 65536 in
set_option maxHeartbeats 40000000 in
theorem rm2 (l : Launch) (Z : State) (a0 : Array Value) (hw : ∀ d ∈ tables_1, d.before a0 Z = true) (ws : List Jvm.Cond) (u0 : Int32) (h0 : Heap) (n0 : Nat) (Z0 : n0 ≤ h0.size)  :
    MetFree l (⟨"quillvax/mllp/MllpCarriesPinLaw", "clean", "(B)Z"⟩ : MethodName) (head1 (Jvm.Cond.code (⟨"quillvax/mllp/MllpCarriesPinLaw", "clean", "(B)Z"⟩ : MethodName) method_3_code 2 (some .boolean) :: ws) ({ frames := 0, cells := 0, slots := 0, locals := 0 } : Room)) (fun a U => a = #[(.int u0)] ∧ Z.Warmed39 U.vm ∧ U.heap = h0) (fun _ _ _ _ _ => True) (fun _ U o U' => ∃ v L, o = .returned v ∧ Q2 Z u0 h0 n0 v U'.heap L ∧ FrameEnd U o U' L ({ frames := 0, cells := 0, slots := 0, locals := 0 } : Room).cells ({ frames := 0, cells := 0, slots := 0, locals := 0 } : Room).slots) := by
  refine MetFree.of_bodySF (plainFor_of_name own_pn0) hisR ?_
  intro p e s m args below meth c s₁ Bd hml0 hP hK
  obtain ⟨rfl, hZ, hh⟩ := hP
  have hx := Bd.exec
  have hby := Bd.bytes
  have hml : c.maxLocals = 2 := hml0
  have hown : s.vm.findClass "quillvax/mllp/MllpCarriesPinLaw" = some m.cls := findClass_of_methodNamed Bd.named
  have hnm := (name_of_methodNamed Bd.named Bd.method).1
  have X0 : Stand p l e ({ frames := 0, cells := 0, slots := 0, locals := 0 } : Room) s m #[(.int u0)] below meth c s₁ [] 0 0 := Stand.of_body Bd
  have e0 : s₁.heap = h0 := by rw [← hh, Bd.state]; rfl
  have N0 := Fr.nil n0
  refine own_in ?_
  refine own_st (fun _ k => castTop (ef_2 m u0) k) ?_
  have K0 : Keep h0 h0 [] := Keep.refl h0 []
  show own_Go _ _ _ _ (s₁.setTop (mkF m 0 #[.val (.int u0), .unset] []))
  refine own_st (fun _ k => XS.iloadN X0.here hx rfl (hb hby d2_0) rfl k) ?_
  show own_Go _ _ _ _ (s₁.setTop (mkF m 1 #[.val (.int u0), .unset] [(.int u0)]))
  refine own_st (fun _ k => XS.sipush X0.here hx rfl (hb hby d2_1) k) ?_
  show own_Go _ _ _ _ (s₁.setTop (mkF m 4 #[.val (.int u0), .unset] [(.int (255 : Int32)), (.int u0)]))
  refine own_st (fun _ k => XS.iand X0.here hx rfl (hb hby d2_4) rfl k) ?_
  show own_Go _ _ _ _ (s₁.setTop (mkF m 5 #[.val (.int u0), .unset] [(.int (u0 &&& (255 : Int32)))]))
  refine own_st (fun _ k => XS.istoreN X0.here hx rfl (hb hby d2_5) rfl (l' := #[.val (.int u0), .val (.int (u0 &&& (255 : Int32)))]) rfl k) ?_
  show own_Go _ _ _ _ (s₁.setTop (mkF m 6 #[.val (.int u0), .val (.int (u0 &&& (255 : Int32)))] []))
  refine own_st (fun _ k => XS.iloadN X0.here hx rfl (hb hby d2_6) rfl k) ?_
  show own_Go _ _ _ _ (s₁.setTop (mkF m 7 #[.val (.int u0), .val (.int (u0 &&& (255 : Int32)))] [(.int (u0 &&& (255 : Int32)))]))
  refine own_st (fun _ k => XS.bipush X0.here hx rfl (hb hby d2_7) k) ?_
  show own_Go _ _ _ _ (s₁.setTop (mkF m 9 #[.val (.int u0), .val (.int (u0 &&& (255 : Int32)))] [(.int (11 : Int32)), (.int (u0 &&& (255 : Int32)))]))
  by_cases hc1 : (u0 &&& (255 : Int32)) = (11 : Int32)
  · skip
    refine own_st (fun _ k => XS.icmpYes X0.here hx rfl (pc0 := 9) (pc' := 22) rfl (hb hby d2_9) rfl (teq hc1).1 (by decide) (by decide) k) ?_
    show own_Go _ _ _ _ (s₁.setTop (mkF m 22 #[.val (.int u0), .val (.int (u0 &&& (255 : Int32)))] []))
    refine own_st (fun _ k => XS.iconst X0.here hx rfl (hb hby d2_22) k) ?_
    show own_Go _ _ _ _ (s₁.setTop (mkF m 23 #[.val (.int u0), .val (.int (u0 &&& (255 : Int32)))] [(.int (0 : Int32))]))
    obtain ⟨fs, hr, hrun, hended, hW, hsame⟩ := X0.leave (v := some (.int (0 : Int32))) (fun h => by rw [Bd.returns] at h; cases h)
    refine own_out (retN X0 hx (t := .boolean) Bd.returns (by simp) (hb hby d2_23) hr) ⟨hrun, hended, _, _, rfl, ?_, ⟨_, rfl⟩, hW, hsame.mono (by decide) (by decide)⟩
    show Q2 Z u0 h0 n0 _ s₁.heap _
    have hv : own_cl u0 = (0 : Int32) := by
      unfold own_cl
      rw [if_pos hc1]
    exact ⟨by rw [hv], N0, e0⟩
  · skip
    refine own_st (fun _ k => XS.icmpNo X0.here hx rfl (hb hby d2_9) rfl (feq hc1).1 k) ?_
    show own_Go _ _ _ _ (s₁.setTop (mkF m 12 #[.val (.int u0), .val (.int (u0 &&& (255 : Int32)))] []))
    refine own_st (fun _ k => XS.iloadN X0.here hx rfl (hb hby d2_12) rfl k) ?_
    show own_Go _ _ _ _ (s₁.setTop (mkF m 13 #[.val (.int u0), .val (.int (u0 &&& (255 : Int32)))] [(.int (u0 &&& (255 : Int32)))]))
    refine own_st (fun _ k => XS.bipush X0.here hx rfl (hb hby d2_13) k) ?_
    show own_Go _ _ _ _ (s₁.setTop (mkF m 15 #[.val (.int u0), .val (.int (u0 &&& (255 : Int32)))] [(.int (28 : Int32)), (.int (u0 &&& (255 : Int32)))]))
    by_cases hc2 : (u0 &&& (255 : Int32)) = (28 : Int32)
    · skip
      refine own_st (fun _ k => XS.icmpYes X0.here hx rfl (pc0 := 15) (pc' := 22) rfl (hb hby d2_15) rfl (teq hc2).1 (by decide) (by decide) k) ?_
      show own_Go _ _ _ _ (s₁.setTop (mkF m 22 #[.val (.int u0), .val (.int (u0 &&& (255 : Int32)))] []))
      refine own_st (fun _ k => XS.iconst X0.here hx rfl (hb hby d2_22) k) ?_
      show own_Go _ _ _ _ (s₁.setTop (mkF m 23 #[.val (.int u0), .val (.int (u0 &&& (255 : Int32)))] [(.int (0 : Int32))]))
      obtain ⟨fs, hr, hrun, hended, hW, hsame⟩ := X0.leave (v := some (.int (0 : Int32))) (fun h => by rw [Bd.returns] at h; cases h)
      refine own_out (retN X0 hx (t := .boolean) Bd.returns (by simp) (hb hby d2_23) hr) ⟨hrun, hended, _, _, rfl, ?_, ⟨_, rfl⟩, hW, hsame.mono (by decide) (by decide)⟩
      show Q2 Z u0 h0 n0 _ s₁.heap _
      have hv : own_cl u0 = (0 : Int32) := by
        unfold own_cl
        rw [if_neg hc1, if_pos hc2]
      exact ⟨by rw [hv], N0, e0⟩
    · skip
      refine own_st (fun _ k => XS.icmpNo X0.here hx rfl (hb hby d2_15) rfl (feq hc2).1 k) ?_
      show own_Go _ _ _ _ (s₁.setTop (mkF m 18 #[.val (.int u0), .val (.int (u0 &&& (255 : Int32)))] []))
      refine own_st (fun _ k => XS.iconst X0.here hx rfl (hb hby d2_18) k) ?_
      show own_Go _ _ _ _ (s₁.setTop (mkF m 19 #[.val (.int u0), .val (.int (u0 &&& (255 : Int32)))] [(.int (1 : Int32))]))
      refine own_st (fun _ k => XS.goto X0.here hx rfl (pc0 := 19) (pc' := 23) rfl (hb hby d2_19) (by decide) (by decide) k) ?_
      show own_Go _ _ _ _ (s₁.setTop (mkF m 23 #[.val (.int u0), .val (.int (u0 &&& (255 : Int32)))] [(.int (1 : Int32))]))
      obtain ⟨fs, hr, hrun, hended, hW, hsame⟩ := X0.leave (v := some (.int (1 : Int32))) (fun h => by rw [Bd.returns] at h; cases h)
      refine own_out (retN X0 hx (t := .boolean) Bd.returns (by simp) (hb hby d2_23) hr) ⟨hrun, hended, _, _, rfl, ?_, ⟨_, rfl⟩, hW, hsame.mono (by decide) (by decide)⟩
      show Q2 Z u0 h0 n0 _ s₁.heap _
      have hv : own_cl u0 = (1 : Int32) := by
        unfold own_cl
        rw [if_neg hc1, if_neg hc2]
      exact ⟨by rw [hv], N0, e0⟩
def own_ca0  : Int32 := (1 : Int32)
theorem d1_0 : decode prog_7_method_2_code 0 = .ok (.aload_n 0, 1) := by decide +kernel
theorem d1_1 : decode prog_7_method_2_code 1 = .ok (.astore_n 1, 1) := by decide +kernel
theorem d1_2 : decode prog_7_method_2_code 2 = .ok (.aload_n 1, 1) := by decide +kernel
theorem d1_3 : decode prog_7_method_2_code 3 = .ok (.arraylength, 1) := by decide +kernel
theorem d1_4 : decode prog_7_method_2_code 4 = .ok (.istore_n 2, 1) := by decide +kernel
theorem d1_5 : decode prog_7_method_2_code 5 = .ok (.iconst 0, 1) := by decide +kernel
theorem d1_6 : decode prog_7_method_2_code 6 = .ok (.istore_n 3, 1) := by decide +kernel
theorem d1_7 : decode prog_7_method_2_code 7 = .ok (.iload_n 3, 1) := by decide +kernel
theorem d1_8 : decode prog_7_method_2_code 8 = .ok (.iload_n 2, 1) := by decide +kernel
theorem d1_9 : decode prog_7_method_2_code 9 = .ok (.if_icmp .ge 30, 3) := by decide +kernel
theorem d1_12 : decode prog_7_method_2_code 12 = .ok (.aload_n 1, 1) := by decide +kernel
theorem d1_13 : decode prog_7_method_2_code 13 = .ok (.iload_n 3, 1) := by decide +kernel
theorem d1_14 : decode prog_7_method_2_code 14 = .ok (.baload, 1) := by decide +kernel
theorem d1_15 : decode prog_7_method_2_code 15 = .ok (.istore 4, 2) := by decide +kernel
theorem d1_17 : decode prog_7_method_2_code 17 = .ok (.iload 4, 2) := by decide +kernel
theorem d1_19 : decode prog_7_method_2_code 19 = .ok (.bipush 11, 2) := by decide +kernel
theorem d1_21 : decode prog_7_method_2_code 21 = .ok (.if_icmp .eq 10, 3) := by decide +kernel
theorem d1_24 : decode prog_7_method_2_code 24 = .ok (.iload 4, 2) := by decide +kernel
theorem d1_26 : decode prog_7_method_2_code 26 = .ok (.bipush 28, 2) := by decide +kernel
theorem d1_28 : decode prog_7_method_2_code 28 = .ok (.if_icmp .ne 5, 3) := by decide +kernel
theorem d1_31 : decode prog_7_method_2_code 31 = .ok (.iconst 0, 1) := by decide +kernel
theorem d1_32 : decode prog_7_method_2_code 32 = .ok (.ireturn, 1) := by decide +kernel
theorem d1_33 : decode prog_7_method_2_code 33 = .ok (.iinc 3 1, 3) := by decide +kernel
theorem d1_36 : decode prog_7_method_2_code 36 = .ok (.goto (-29), 3) := by decide +kernel
theorem d1_39 : decode prog_7_method_2_code 39 = .ok (.iconst 1, 1) := by decide +kernel
theorem d1_40 : decode prog_7_method_2_code 40 = .ok (.ireturn, 1) := by decide +kernel
theorem own_pd1 : parseMethodDescriptor "([B)Z" = some ⟨[(.array .byte)], some .boolean⟩ := by decide +kernel
theorem own_pn1 : plainName "quillvax/mllp/Mllp" = true := by first | (simp [plainName, overriddenIn]; done) | decide +kernel
def Q1_0 (Z : State) (ar : Addr) (kk : ClassId)  (h0 : Heap) (n0 : Nat) (v : Option Value) (h : Heap) (L : List Loc) : Prop := v = some (.int (own_ca0)) ∧ Fr n0 L ∧ h = h0
theorem ef_1_0 (m : MethodId) (x0 : Addr) : entryFrame m #[(.ref x0)] 5 = mkF m 0 #[.val (.ref x0), .unset, .unset, .unset, .unset] [] := by first | (simp [entryFrame, mkF, argsToLocals, Value.category]; done) | rfl
set_option maxRecDepth 65536 in
set_option maxHeartbeats 40000000 in
theorem rm1_0 (l : Launch) (Z : State) (a0 : Array Value) (hw : ∀ d ∈ tables_1, d.before a0 Z = true) (ws : List Jvm.Cond) (ar : Addr) (kk : ClassId)  (h0 : Heap) (n0 : Nat) (Z0 : n0 ≤ h0.size) (V_ar : Arv Z h0 ar kk .byte (0 : Int32) [] (.int (0 : Int32))) :
    MetFree l (⟨"quillvax/mllp/Mllp", "carries", "([B)Z"⟩ : MethodName) (head1 (Jvm.Cond.code (⟨"quillvax/mllp/Mllp", "carries", "([B)Z"⟩ : MethodName) prog_7_method_2_code 5 (some .boolean) :: ws) ({ frames := 0, cells := 0, slots := 0, locals := 0 } : Room)) (fun a U => a = #[(.ref ar)] ∧ Z.Warmed39 U.vm ∧ U.heap = h0) (fun _ _ _ _ _ => True) (fun _ U o U' => ∃ v L, o = .returned v ∧ Q1_0 Z ar kk h0 n0 v U'.heap L ∧ FrameEnd U o U' L ({ frames := 0, cells := 0, slots := 0, locals := 0 } : Room).cells ({ frames := 0, cells := 0, slots := 0, locals := 0 } : Room).slots) := by
  refine MetFree.of_bodySF (plainFor_of_name own_pn1) hisR ?_
  intro p e s m args below meth c s₁ Bd hml0 hP hK
  obtain ⟨rfl, hZ, hh⟩ := hP
  have hx := Bd.exec
  have hby := Bd.bytes
  have hml : c.maxLocals = 5 := hml0
  have hown : s.vm.findClass "quillvax/mllp/Mllp" = some m.cls := findClass_of_methodNamed Bd.named
  have hnm := (name_of_methodNamed Bd.named Bd.method).1
  have X0 : Stand p l e ({ frames := 0, cells := 0, slots := 0, locals := 0 } : Room) s m #[(.ref ar)] below meth c s₁ [] 0 0 := Stand.of_body Bd
  have e0 : s₁.heap = h0 := by rw [← hh, Bd.state]; rfl
  have N0 := Fr.nil n0
  refine own_in ?_
  refine own_st (fun _ k => castTop (ef_1_0 m ar) k) ?_
  have K0 : Keep h0 h0 [] := Keep.refl h0 []
  show own_Go _ _ _ _ (s₁.setTop (mkF m 0 #[.val (.ref ar), .unset, .unset, .unset, .unset] []))
  refine own_st (fun _ k => XS.aloadN X0.here hx rfl (hb hby d1_0) rfl rfl k) ?_
  show own_Go _ _ _ _ (s₁.setTop (mkF m 1 #[.val (.ref ar), .unset, .unset, .unset, .unset] [(.ref ar)]))
  refine own_st (fun _ k => XS.astoreN X0.here hx rfl (hb hby d1_1) rfl rfl (l' := #[.val (.ref ar), .val (.ref ar), .unset, .unset, .unset]) rfl k) ?_
  show own_Go _ _ _ _ (s₁.setTop (mkF m 2 #[.val (.ref ar), .val (.ref ar), .unset, .unset, .unset] []))
  refine own_st (fun _ k => XS.aloadN X0.here hx rfl (hb hby d1_2) rfl rfl k) ?_
  show own_Go _ _ _ _ (s₁.setTop (mkF m 3 #[.val (.ref ar), .val (.ref ar), .unset, .unset, .unset] [(.ref ar)]))
  obtain ⟨cl3, Ar3, -, Sz3, Nn3, -, -⟩ := id V_ar
  refine own_st (X0.arraylength hx (by rw [e0]; exact Ar3.1) (State.isArrayOf_alike hZ.alike Ar3.2.1) (g := (mkF m 3 #[.val (.ref ar), .val (.ref ar), .unset, .unset, .unset] [(.ref ar)])) rfl rfl (hb hby d1_3)) ?_
  rw [len_of Sz3 Nn3]
  show own_Go _ _ _ _ (s₁.setTop (mkF m 4 #[.val (.ref ar), .val (.ref ar), .unset, .unset, .unset] [(.int (0 : Int32))]))
  refine own_st (fun _ k => XS.istoreN X0.here hx rfl (hb hby d1_4) rfl (l' := #[.val (.ref ar), .val (.ref ar), .val (.int (0 : Int32)), .unset, .unset]) rfl k) ?_
  show own_Go _ _ _ _ (s₁.setTop (mkF m 5 #[.val (.ref ar), .val (.ref ar), .val (.int (0 : Int32)), .unset, .unset] []))
  refine own_st (fun _ k => XS.iconst X0.here hx rfl (hb hby d1_5) k) ?_
  show own_Go _ _ _ _ (s₁.setTop (mkF m 6 #[.val (.ref ar), .val (.ref ar), .val (.int (0 : Int32)), .unset, .unset] [(.int (0 : Int32))]))
  refine own_st (fun _ k => XS.istoreN X0.here hx rfl (hb hby d1_6) rfl (l' := #[.val (.ref ar), .val (.ref ar), .val (.int (0 : Int32)), .val (.int (0 : Int32)), .unset]) rfl k) ?_
  show own_Go _ _ _ _ (s₁.setTop (mkF m 7 #[.val (.ref ar), .val (.ref ar), .val (.int (0 : Int32)), .val (.int (0 : Int32)), .unset] []))
  refine own_st (fun _ k => XS.iloadN X0.here hx rfl (hb hby d1_7) rfl k) ?_
  show own_Go _ _ _ _ (s₁.setTop (mkF m 8 #[.val (.ref ar), .val (.ref ar), .val (.int (0 : Int32)), .val (.int (0 : Int32)), .unset] [(.int (0 : Int32))]))
  refine own_st (fun _ k => XS.iloadN X0.here hx rfl (hb hby d1_8) rfl k) ?_
  show own_Go _ _ _ _ (s₁.setTop (mkF m 9 #[.val (.ref ar), .val (.ref ar), .val (.int (0 : Int32)), .val (.int (0 : Int32)), .unset] [(.int (0 : Int32)), (.int (0 : Int32))]))
  refine own_st (fun _ k => XS.icmpYes X0.here hx rfl (pc0 := 9) (pc' := 39) rfl (hb hby d1_9) rfl (flt (by decide : ¬ ((0 : Int32) < (0 : Int32)))).2.1 (by decide) (by decide) k) ?_
  show own_Go _ _ _ _ (s₁.setTop (mkF m 39 #[.val (.ref ar), .val (.ref ar), .val (.int (0 : Int32)), .val (.int (0 : Int32)), .unset] []))
  refine own_st (fun _ k => XS.iconst X0.here hx rfl (hb hby d1_39) k) ?_
  show own_Go _ _ _ _ (s₁.setTop (mkF m 40 #[.val (.ref ar), .val (.ref ar), .val (.int (0 : Int32)), .val (.int (0 : Int32)), .unset] [(.int (1 : Int32))]))
  obtain ⟨fs, hr, hrun, hended, hW, hsame⟩ := X0.leave (v := some (.int (1 : Int32))) (fun h => by rw [Bd.returns] at h; cases h)
  refine own_out (retN X0 hx (t := .boolean) Bd.returns (by simp) (hb hby d1_40) hr) ⟨hrun, hended, _, _, rfl, ?_, ⟨_, rfl⟩, hW, hsame.mono (by decide) (by decide)⟩
  show Q1_0 Z ar kk h0 n0 _ s₁.heap _
  have hv : own_ca0 = (1 : Int32) := rfl
  exact ⟨by rw [hv], N0, e0⟩
def own_ca1 (v0 : Int32) : Int32 := (if v0 = (11 : Int32) then (0 : Int32) else (if v0 = (28 : Int32) then (0 : Int32) else (1 : Int32)))
def Q1_1 (Z : State) (ar : Addr) (kk : ClassId) (v0 : Int32) (h0 : Heap) (n0 : Nat) (v : Option Value) (h : Heap) (L : List Loc) : Prop := v = some (.int (own_ca1 v0)) ∧ Fr n0 L ∧ h = h0
theorem ef_1_1 (m : MethodId) (x0 : Addr) : entryFrame m #[(.ref x0)] 5 = mkF m 0 #[.val (.ref x0), .unset, .unset, .unset, .unset] [] := by first | (simp [entryFrame, mkF, argsToLocals, Value.category]; done) | rfl
set_option maxRecDepth 65536 in
set_option maxHeartbeats 40000000 in
theorem rm1_1 (l : Launch) (Z : State) (a0 : Array Value) (hw : ∀ d ∈ tables_1, d.before a0 Z = true) (ws : List Jvm.Cond) (ar : Addr) (kk : ClassId) (v0 : Int32) (h0 : Heap) (n0 : Nat) (Z0 : n0 ≤ h0.size) (V_ar : Arv Z h0 ar kk .byte (1 : Int32) [.int v0] (.int (0 : Int32))) :
    MetFree l (⟨"quillvax/mllp/Mllp", "carries", "([B)Z"⟩ : MethodName) (head1 (Jvm.Cond.code (⟨"quillvax/mllp/Mllp", "carries", "([B)Z"⟩ : MethodName) prog_7_method_2_code 5 (some .boolean) :: ws) ({ frames := 0, cells := 0, slots := 0, locals := 0 } : Room)) (fun a U => a = #[(.ref ar)] ∧ Z.Warmed39 U.vm ∧ U.heap = h0) (fun _ _ _ _ _ => True) (fun _ U o U' => ∃ v L, o = .returned v ∧ Q1_1 Z ar kk v0 h0 n0 v U'.heap L ∧ FrameEnd U o U' L ({ frames := 0, cells := 0, slots := 0, locals := 0 } : Room).cells ({ frames := 0, cells := 0, slots := 0, locals := 0 } : Room).slots) := by
  refine MetFree.of_bodySF (plainFor_of_name own_pn1) hisR ?_
  intro p e s m args below meth c s₁ Bd hml0 hP hK
  obtain ⟨rfl, hZ, hh⟩ := hP
  have hx := Bd.exec
  have hby := Bd.bytes
  have hml : c.maxLocals = 5 := hml0
  have hown : s.vm.findClass "quillvax/mllp/Mllp" = some m.cls := findClass_of_methodNamed Bd.named
  have hnm := (name_of_methodNamed Bd.named Bd.method).1
  have X0 : Stand p l e ({ frames := 0, cells := 0, slots := 0, locals := 0 } : Room) s m #[(.ref ar)] below meth c s₁ [] 0 0 := Stand.of_body Bd
  have e0 : s₁.heap = h0 := by rw [← hh, Bd.state]; rfl
  have N0 := Fr.nil n0
  refine own_in ?_
  refine own_st (fun _ k => castTop (ef_1_1 m ar) k) ?_
  have K0 : Keep h0 h0 [] := Keep.refl h0 []
  show own_Go _ _ _ _ (s₁.setTop (mkF m 0 #[.val (.ref ar), .unset, .unset, .unset, .unset] []))
  refine own_st (fun _ k => XS.aloadN X0.here hx rfl (hb hby d1_0) rfl rfl k) ?_
  show own_Go _ _ _ _ (s₁.setTop (mkF m 1 #[.val (.ref ar), .unset, .unset, .unset, .unset] [(.ref ar)]))
  refine own_st (fun _ k => XS.astoreN X0.here hx rfl (hb hby d1_1) rfl rfl (l' := #[.val (.ref ar), .val (.ref ar), .unset, .unset, .unset]) rfl k) ?_
  show own_Go _ _ _ _ (s₁.setTop (mkF m 2 #[.val (.ref ar), .val (.ref ar), .unset, .unset, .unset] []))
  refine own_st (fun _ k => XS.aloadN X0.here hx rfl (hb hby d1_2) rfl rfl k) ?_
  show own_Go _ _ _ _ (s₁.setTop (mkF m 3 #[.val (.ref ar), .val (.ref ar), .unset, .unset, .unset] [(.ref ar)]))
  obtain ⟨cl4, Ar4, -, Sz4, Nn4, -, -⟩ := id V_ar
  refine own_st (X0.arraylength hx (by rw [e0]; exact Ar4.1) (State.isArrayOf_alike hZ.alike Ar4.2.1) (g := (mkF m 3 #[.val (.ref ar), .val (.ref ar), .unset, .unset, .unset] [(.ref ar)])) rfl rfl (hb hby d1_3)) ?_
  rw [len_of Sz4 Nn4]
  show own_Go _ _ _ _ (s₁.setTop (mkF m 4 #[.val (.ref ar), .val (.ref ar), .unset, .unset, .unset] [(.int (1 : Int32))]))
  refine own_st (fun _ k => XS.istoreN X0.here hx rfl (hb hby d1_4) rfl (l' := #[.val (.ref ar), .val (.ref ar), .val (.int (1 : Int32)), .unset, .unset]) rfl k) ?_
  show own_Go _ _ _ _ (s₁.setTop (mkF m 5 #[.val (.ref ar), .val (.ref ar), .val (.int (1 : Int32)), .unset, .unset] []))
  refine own_st (fun _ k => XS.iconst X0.here hx rfl (hb hby d1_5) k) ?_
  show own_Go _ _ _ _ (s₁.setTop (mkF m 6 #[.val (.ref ar), .val (.ref ar), .val (.int (1 : Int32)), .unset, .unset] [(.int (0 : Int32))]))
  refine own_st (fun _ k => XS.istoreN X0.here hx rfl (hb hby d1_6) rfl (l' := #[.val (.ref ar), .val (.ref ar), .val (.int (1 : Int32)), .val (.int (0 : Int32)), .unset]) rfl k) ?_
  show own_Go _ _ _ _ (s₁.setTop (mkF m 7 #[.val (.ref ar), .val (.ref ar), .val (.int (1 : Int32)), .val (.int (0 : Int32)), .unset] []))
  refine own_st (fun _ k => XS.iloadN X0.here hx rfl (hb hby d1_7) rfl k) ?_
  show own_Go _ _ _ _ (s₁.setTop (mkF m 8 #[.val (.ref ar), .val (.ref ar), .val (.int (1 : Int32)), .val (.int (0 : Int32)), .unset] [(.int (0 : Int32))]))
  refine own_st (fun _ k => XS.iloadN X0.here hx rfl (hb hby d1_8) rfl k) ?_
  show own_Go _ _ _ _ (s₁.setTop (mkF m 9 #[.val (.ref ar), .val (.ref ar), .val (.int (1 : Int32)), .val (.int (0 : Int32)), .unset] [(.int (1 : Int32)), (.int (0 : Int32))]))
  refine own_st (fun _ k => XS.icmpNo X0.here hx rfl (hb hby d1_9) rfl (tlt (by decide : ((0 : Int32) < (1 : Int32)))).2.1 k) ?_
  show own_Go _ _ _ _ (s₁.setTop (mkF m 12 #[.val (.ref ar), .val (.ref ar), .val (.int (1 : Int32)), .val (.int (0 : Int32)), .unset] []))
  refine own_st (fun _ k => XS.aloadN X0.here hx rfl (hb hby d1_12) rfl rfl k) ?_
  show own_Go _ _ _ _ (s₁.setTop (mkF m 13 #[.val (.ref ar), .val (.ref ar), .val (.int (1 : Int32)), .val (.int (0 : Int32)), .unset] [(.ref ar)]))
  refine own_st (fun _ k => XS.iloadN X0.here hx rfl (hb hby d1_13) rfl k) ?_
  show own_Go _ _ _ _ (s₁.setTop (mkF m 14 #[.val (.ref ar), .val (.ref ar), .val (.int (1 : Int32)), .val (.int (0 : Int32)), .unset] [(.int (0 : Int32)), (.ref ar)]))
  obtain ⟨cl5, Ar5, -, Sz5, Nn5, Hs5, -⟩ := id V_ar
  have hin5 : ¬ ((0 : Int32) < 0 ∨ cl5.slots.size ≤ ((0 : Int32)).toNatClampNeg) := inb_of Sz5 ⟨(by decide : ¬ ((0 : Int32) < (0 : Int32))), (by decide : (0 : Int32) < (1 : Int32))⟩
  have hat5 : cl5.slots[((0 : Int32)).toNatClampNeg]? = some (.int v0) := Hs5.at hin5 rfl
  refine own_st (X0.baloadBytes hx (j := (0 : Int32)) (v := (.int v0)) (by rw [e0]; exact Ar5.1) (State.isArrayOf_alike hZ.alike Ar5.2.1) Ar5.2.2 hin5 hat5 (g := (mkF m 14 #[.val (.ref ar), .val (.ref ar), .val (.int (1 : Int32)), .val (.int (0 : Int32)), .unset] [(.int (0 : Int32)), (.ref ar)])) rfl rfl (hb hby d1_14)) ?_
  show own_Go _ _ _ _ (s₁.setTop (mkF m 15 #[.val (.ref ar), .val (.ref ar), .val (.int (1 : Int32)), .val (.int (0 : Int32)), .unset] [(.int v0)]))
  refine own_st (fun _ k => XS.istore X0.here hx rfl (hb hby d1_15) rfl (l' := #[.val (.ref ar), .val (.ref ar), .val (.int (1 : Int32)), .val (.int (0 : Int32)), .val (.int v0)]) rfl k) ?_
  show own_Go _ _ _ _ (s₁.setTop (mkF m 17 #[.val (.ref ar), .val (.ref ar), .val (.int (1 : Int32)), .val (.int (0 : Int32)), .val (.int v0)] []))
  refine own_st (fun _ k => XS.iload X0.here hx rfl (hb hby d1_17) rfl k) ?_
  show own_Go _ _ _ _ (s₁.setTop (mkF m 19 #[.val (.ref ar), .val (.ref ar), .val (.int (1 : Int32)), .val (.int (0 : Int32)), .val (.int v0)] [(.int v0)]))
  refine own_st (fun _ k => XS.bipush X0.here hx rfl (hb hby d1_19) k) ?_
  show own_Go _ _ _ _ (s₁.setTop (mkF m 21 #[.val (.ref ar), .val (.ref ar), .val (.int (1 : Int32)), .val (.int (0 : Int32)), .val (.int v0)] [(.int (11 : Int32)), (.int v0)]))
  by_cases hc6 : v0 = (11 : Int32)
  · skip
    refine own_st (fun _ k => XS.icmpYes X0.here hx rfl (pc0 := 21) (pc' := 31) rfl (hb hby d1_21) rfl (teq hc6).1 (by decide) (by decide) k) ?_
    show own_Go _ _ _ _ (s₁.setTop (mkF m 31 #[.val (.ref ar), .val (.ref ar), .val (.int (1 : Int32)), .val (.int (0 : Int32)), .val (.int v0)] []))
    refine own_st (fun _ k => XS.iconst X0.here hx rfl (hb hby d1_31) k) ?_
    show own_Go _ _ _ _ (s₁.setTop (mkF m 32 #[.val (.ref ar), .val (.ref ar), .val (.int (1 : Int32)), .val (.int (0 : Int32)), .val (.int v0)] [(.int (0 : Int32))]))
    obtain ⟨fs, hr, hrun, hended, hW, hsame⟩ := X0.leave (v := some (.int (0 : Int32))) (fun h => by rw [Bd.returns] at h; cases h)
    refine own_out (retN X0 hx (t := .boolean) Bd.returns (by simp) (hb hby d1_32) hr) ⟨hrun, hended, _, _, rfl, ?_, ⟨_, rfl⟩, hW, hsame.mono (by decide) (by decide)⟩
    show Q1_1 Z ar kk v0 h0 n0 _ s₁.heap _
    have hv : own_ca1 v0 = (0 : Int32) := by
      unfold own_ca1
      rw [if_pos hc6]
    exact ⟨by rw [hv], N0, e0⟩
  · skip
    refine own_st (fun _ k => XS.icmpNo X0.here hx rfl (hb hby d1_21) rfl (feq hc6).1 k) ?_
    show own_Go _ _ _ _ (s₁.setTop (mkF m 24 #[.val (.ref ar), .val (.ref ar), .val (.int (1 : Int32)), .val (.int (0 : Int32)), .val (.int v0)] []))
    refine own_st (fun _ k => XS.iload X0.here hx rfl (hb hby d1_24) rfl k) ?_
    show own_Go _ _ _ _ (s₁.setTop (mkF m 26 #[.val (.ref ar), .val (.ref ar), .val (.int (1 : Int32)), .val (.int (0 : Int32)), .val (.int v0)] [(.int v0)]))
    refine own_st (fun _ k => XS.bipush X0.here hx rfl (hb hby d1_26) k) ?_
    show own_Go _ _ _ _ (s₁.setTop (mkF m 28 #[.val (.ref ar), .val (.ref ar), .val (.int (1 : Int32)), .val (.int (0 : Int32)), .val (.int v0)] [(.int (28 : Int32)), (.int v0)]))
    by_cases hc7 : v0 = (28 : Int32)
    · skip
      refine own_st (fun _ k => XS.icmpNo X0.here hx rfl (hb hby d1_28) rfl (teq hc7).2 k) ?_
      show own_Go _ _ _ _ (s₁.setTop (mkF m 31 #[.val (.ref ar), .val (.ref ar), .val (.int (1 : Int32)), .val (.int (0 : Int32)), .val (.int v0)] []))
      refine own_st (fun _ k => XS.iconst X0.here hx rfl (hb hby d1_31) k) ?_
      show own_Go _ _ _ _ (s₁.setTop (mkF m 32 #[.val (.ref ar), .val (.ref ar), .val (.int (1 : Int32)), .val (.int (0 : Int32)), .val (.int v0)] [(.int (0 : Int32))]))
      obtain ⟨fs, hr, hrun, hended, hW, hsame⟩ := X0.leave (v := some (.int (0 : Int32))) (fun h => by rw [Bd.returns] at h; cases h)
      refine own_out (retN X0 hx (t := .boolean) Bd.returns (by simp) (hb hby d1_32) hr) ⟨hrun, hended, _, _, rfl, ?_, ⟨_, rfl⟩, hW, hsame.mono (by decide) (by decide)⟩
      show Q1_1 Z ar kk v0 h0 n0 _ s₁.heap _
      have hv : own_ca1 v0 = (0 : Int32) := by
        unfold own_ca1
        rw [if_neg hc6, if_pos hc7]
      exact ⟨by rw [hv], N0, e0⟩
    · skip
      refine own_st (fun _ k => XS.icmpYes X0.here hx rfl (pc0 := 28) (pc' := 33) rfl (hb hby d1_28) rfl (feq hc7).2 (by decide) (by decide) k) ?_
      show own_Go _ _ _ _ (s₁.setTop (mkF m 33 #[.val (.ref ar), .val (.ref ar), .val (.int (1 : Int32)), .val (.int (0 : Int32)), .val (.int v0)] []))
      refine own_st (fun _ k => XS.iinc X0.here hx rfl (hb hby d1_33) rfl (l' := #[.val (.ref ar), .val (.ref ar), .val (.int (1 : Int32)), .val (.int (1 : Int32)), .val (.int v0)]) rfl k) ?_
      show own_Go _ _ _ _ (s₁.setTop (mkF m 36 #[.val (.ref ar), .val (.ref ar), .val (.int (1 : Int32)), .val (.int (1 : Int32)), .val (.int v0)] []))
      refine own_st (fun _ k => XS.goto X0.here hx rfl (pc0 := 36) (pc' := 7) rfl (hb hby d1_36) (by decide) (by decide) k) ?_
      show own_Go _ _ _ _ (s₁.setTop (mkF m 7 #[.val (.ref ar), .val (.ref ar), .val (.int (1 : Int32)), .val (.int (1 : Int32)), .val (.int v0)] []))
      refine own_st (fun _ k => XS.iloadN X0.here hx rfl (hb hby d1_7) rfl k) ?_
      show own_Go _ _ _ _ (s₁.setTop (mkF m 8 #[.val (.ref ar), .val (.ref ar), .val (.int (1 : Int32)), .val (.int (1 : Int32)), .val (.int v0)] [(.int (1 : Int32))]))
      refine own_st (fun _ k => XS.iloadN X0.here hx rfl (hb hby d1_8) rfl k) ?_
      show own_Go _ _ _ _ (s₁.setTop (mkF m 9 #[.val (.ref ar), .val (.ref ar), .val (.int (1 : Int32)), .val (.int (1 : Int32)), .val (.int v0)] [(.int (1 : Int32)), (.int (1 : Int32))]))
      refine own_st (fun _ k => XS.icmpYes X0.here hx rfl (pc0 := 9) (pc' := 39) rfl (hb hby d1_9) rfl (flt (by decide : ¬ ((1 : Int32) < (1 : Int32)))).2.1 (by decide) (by decide) k) ?_
      show own_Go _ _ _ _ (s₁.setTop (mkF m 39 #[.val (.ref ar), .val (.ref ar), .val (.int (1 : Int32)), .val (.int (1 : Int32)), .val (.int v0)] []))
      refine own_st (fun _ k => XS.iconst X0.here hx rfl (hb hby d1_39) k) ?_
      show own_Go _ _ _ _ (s₁.setTop (mkF m 40 #[.val (.ref ar), .val (.ref ar), .val (.int (1 : Int32)), .val (.int (1 : Int32)), .val (.int v0)] [(.int (1 : Int32))]))
      obtain ⟨fs, hr, hrun, hended, hW, hsame⟩ := X0.leave (v := some (.int (1 : Int32))) (fun h => by rw [Bd.returns] at h; cases h)
      refine own_out (retN X0 hx (t := .boolean) Bd.returns (by simp) (hb hby d1_40) hr) ⟨hrun, hended, _, _, rfl, ?_, ⟨_, rfl⟩, hW, hsame.mono (by decide) (by decide)⟩
      show Q1_1 Z ar kk v0 h0 n0 _ s₁.heap _
      have hv : own_ca1 v0 = (1 : Int32) := by
        unfold own_ca1
        rw [if_neg hc6, if_neg hc7]
      exact ⟨by rw [hv], N0, e0⟩
def own_ca2 (v0 : Int32) (v1 : Int32) : Int32 := (if v0 = (11 : Int32) then (0 : Int32) else (if v0 = (28 : Int32) then (0 : Int32) else (if v1 = (11 : Int32) then (0 : Int32) else (if v1 = (28 : Int32) then (0 : Int32) else (1 : Int32)))))
def Q1_2 (Z : State) (ar : Addr) (kk : ClassId) (v0 : Int32) (v1 : Int32) (h0 : Heap) (n0 : Nat) (v : Option Value) (h : Heap) (L : List Loc) : Prop := v = some (.int (own_ca2 v0 v1)) ∧ Fr n0 L ∧ h = h0
theorem ef_1_2 (m : MethodId) (x0 : Addr) : entryFrame m #[(.ref x0)] 5 = mkF m 0 #[.val (.ref x0), .unset, .unset, .unset, .unset] [] := by first | (simp [entryFrame, mkF, argsToLocals, Value.category]; done) | rfl
set_option maxRecDepth 65536 in
set_option maxHeartbeats 40000000 in
theorem rm1_2 (l : Launch) (Z : State) (a0 : Array Value) (hw : ∀ d ∈ tables_1, d.before a0 Z = true) (ws : List Jvm.Cond) (ar : Addr) (kk : ClassId) (v0 : Int32) (v1 : Int32) (h0 : Heap) (n0 : Nat) (Z0 : n0 ≤ h0.size) (V_ar : Arv Z h0 ar kk .byte (2 : Int32) [.int v0, .int v1] (.int (0 : Int32))) :
    MetFree l (⟨"quillvax/mllp/Mllp", "carries", "([B)Z"⟩ : MethodName) (head1 (Jvm.Cond.code (⟨"quillvax/mllp/Mllp", "carries", "([B)Z"⟩ : MethodName) prog_7_method_2_code 5 (some .boolean) :: ws) ({ frames := 0, cells := 0, slots := 0, locals := 0 } : Room)) (fun a U => a = #[(.ref ar)] ∧ Z.Warmed39 U.vm ∧ U.heap = h0) (fun _ _ _ _ _ => True) (fun _ U o U' => ∃ v L, o = .returned v ∧ Q1_2 Z ar kk v0 v1 h0 n0 v U'.heap L ∧ FrameEnd U o U' L ({ frames := 0, cells := 0, slots := 0, locals := 0 } : Room).cells ({ frames := 0, cells := 0, slots := 0, locals := 0 } : Room).slots) := by
  refine MetFree.of_bodySF (plainFor_of_name own_pn1) hisR ?_
  intro p e s m args below meth c s₁ Bd hml0 hP hK
  obtain ⟨rfl, hZ, hh⟩ := hP
  have hx := Bd.exec
  have hby := Bd.bytes
  have hml : c.maxLocals = 5 := hml0
  have hown : s.vm.findClass "quillvax/mllp/Mllp" = some m.cls := findClass_of_methodNamed Bd.named
  have hnm := (name_of_methodNamed Bd.named Bd.method).1
  have X0 : Stand p l e ({ frames := 0, cells := 0, slots := 0, locals := 0 } : Room) s m #[(.ref ar)] below meth c s₁ [] 0 0 := Stand.of_body Bd
  have e0 : s₁.heap = h0 := by rw [← hh, Bd.state]; rfl
  have N0 := Fr.nil n0
  refine own_in ?_
  refine own_st (fun _ k => castTop (ef_1_2 m ar) k) ?_
  have K0 : Keep h0 h0 [] := Keep.refl h0 []
  show own_Go _ _ _ _ (s₁.setTop (mkF m 0 #[.val (.ref ar), .unset, .unset, .unset, .unset] []))
  refine own_st (fun _ k => XS.aloadN X0.here hx rfl (hb hby d1_0) rfl rfl k) ?_
  show own_Go _ _ _ _ (s₁.setTop (mkF m 1 #[.val (.ref ar), .unset, .unset, .unset, .unset] [(.ref ar)]))
  refine own_st (fun _ k => XS.astoreN X0.here hx rfl (hb hby d1_1) rfl rfl (l' := #[.val (.ref ar), .val (.ref ar), .unset, .unset, .unset]) rfl k) ?_
  show own_Go _ _ _ _ (s₁.setTop (mkF m 2 #[.val (.ref ar), .val (.ref ar), .unset, .unset, .unset] []))
  refine own_st (fun _ k => XS.aloadN X0.here hx rfl (hb hby d1_2) rfl rfl k) ?_
  show own_Go _ _ _ _ (s₁.setTop (mkF m 3 #[.val (.ref ar), .val (.ref ar), .unset, .unset, .unset] [(.ref ar)]))
  obtain ⟨cl8, Ar8, -, Sz8, Nn8, -, -⟩ := id V_ar
  refine own_st (X0.arraylength hx (by rw [e0]; exact Ar8.1) (State.isArrayOf_alike hZ.alike Ar8.2.1) (g := (mkF m 3 #[.val (.ref ar), .val (.ref ar), .unset, .unset, .unset] [(.ref ar)])) rfl rfl (hb hby d1_3)) ?_
  rw [len_of Sz8 Nn8]
  show own_Go _ _ _ _ (s₁.setTop (mkF m 4 #[.val (.ref ar), .val (.ref ar), .unset, .unset, .unset] [(.int (2 : Int32))]))
  refine own_st (fun _ k => XS.istoreN X0.here hx rfl (hb hby d1_4) rfl (l' := #[.val (.ref ar), .val (.ref ar), .val (.int (2 : Int32)), .unset, .unset]) rfl k) ?_
  show own_Go _ _ _ _ (s₁.setTop (mkF m 5 #[.val (.ref ar), .val (.ref ar), .val (.int (2 : Int32)), .unset, .unset] []))
  refine own_st (fun _ k => XS.iconst X0.here hx rfl (hb hby d1_5) k) ?_
  show own_Go _ _ _ _ (s₁.setTop (mkF m 6 #[.val (.ref ar), .val (.ref ar), .val (.int (2 : Int32)), .unset, .unset] [(.int (0 : Int32))]))
  refine own_st (fun _ k => XS.istoreN X0.here hx rfl (hb hby d1_6) rfl (l' := #[.val (.ref ar), .val (.ref ar), .val (.int (2 : Int32)), .val (.int (0 : Int32)), .unset]) rfl k) ?_
  show own_Go _ _ _ _ (s₁.setTop (mkF m 7 #[.val (.ref ar), .val (.ref ar), .val (.int (2 : Int32)), .val (.int (0 : Int32)), .unset] []))
  refine own_st (fun _ k => XS.iloadN X0.here hx rfl (hb hby d1_7) rfl k) ?_
  show own_Go _ _ _ _ (s₁.setTop (mkF m 8 #[.val (.ref ar), .val (.ref ar), .val (.int (2 : Int32)), .val (.int (0 : Int32)), .unset] [(.int (0 : Int32))]))
  refine own_st (fun _ k => XS.iloadN X0.here hx rfl (hb hby d1_8) rfl k) ?_
  show own_Go _ _ _ _ (s₁.setTop (mkF m 9 #[.val (.ref ar), .val (.ref ar), .val (.int (2 : Int32)), .val (.int (0 : Int32)), .unset] [(.int (2 : Int32)), (.int (0 : Int32))]))
  refine own_st (fun _ k => XS.icmpNo X0.here hx rfl (hb hby d1_9) rfl (tlt (by decide : ((0 : Int32) < (2 : Int32)))).2.1 k) ?_
  show own_Go _ _ _ _ (s₁.setTop (mkF m 12 #[.val (.ref ar), .val (.ref ar), .val (.int (2 : Int32)), .val (.int (0 : Int32)), .unset] []))
  refine own_st (fun _ k => XS.aloadN X0.here hx rfl (hb hby d1_12) rfl rfl k) ?_
  show own_Go _ _ _ _ (s₁.setTop (mkF m 13 #[.val (.ref ar), .val (.ref ar), .val (.int (2 : Int32)), .val (.int (0 : Int32)), .unset] [(.ref ar)]))
  refine own_st (fun _ k => XS.iloadN X0.here hx rfl (hb hby d1_13) rfl k) ?_
  show own_Go _ _ _ _ (s₁.setTop (mkF m 14 #[.val (.ref ar), .val (.ref ar), .val (.int (2 : Int32)), .val (.int (0 : Int32)), .unset] [(.int (0 : Int32)), (.ref ar)]))
  obtain ⟨cl9, Ar9, -, Sz9, Nn9, Hs9, -⟩ := id V_ar
  have hin9 : ¬ ((0 : Int32) < 0 ∨ cl9.slots.size ≤ ((0 : Int32)).toNatClampNeg) := inb_of Sz9 ⟨(by decide : ¬ ((0 : Int32) < (0 : Int32))), (by decide : (0 : Int32) < (2 : Int32))⟩
  have hat9 : cl9.slots[((0 : Int32)).toNatClampNeg]? = some (.int v0) := Hs9.at hin9 rfl
  refine own_st (X0.baloadBytes hx (j := (0 : Int32)) (v := (.int v0)) (by rw [e0]; exact Ar9.1) (State.isArrayOf_alike hZ.alike Ar9.2.1) Ar9.2.2 hin9 hat9 (g := (mkF m 14 #[.val (.ref ar), .val (.ref ar), .val (.int (2 : Int32)), .val (.int (0 : Int32)), .unset] [(.int (0 : Int32)), (.ref ar)])) rfl rfl (hb hby d1_14)) ?_
  show own_Go _ _ _ _ (s₁.setTop (mkF m 15 #[.val (.ref ar), .val (.ref ar), .val (.int (2 : Int32)), .val (.int (0 : Int32)), .unset] [(.int v0)]))
  refine own_st (fun _ k => XS.istore X0.here hx rfl (hb hby d1_15) rfl (l' := #[.val (.ref ar), .val (.ref ar), .val (.int (2 : Int32)), .val (.int (0 : Int32)), .val (.int v0)]) rfl k) ?_
  show own_Go _ _ _ _ (s₁.setTop (mkF m 17 #[.val (.ref ar), .val (.ref ar), .val (.int (2 : Int32)), .val (.int (0 : Int32)), .val (.int v0)] []))
  refine own_st (fun _ k => XS.iload X0.here hx rfl (hb hby d1_17) rfl k) ?_
  show own_Go _ _ _ _ (s₁.setTop (mkF m 19 #[.val (.ref ar), .val (.ref ar), .val (.int (2 : Int32)), .val (.int (0 : Int32)), .val (.int v0)] [(.int v0)]))
  refine own_st (fun _ k => XS.bipush X0.here hx rfl (hb hby d1_19) k) ?_
  show own_Go _ _ _ _ (s₁.setTop (mkF m 21 #[.val (.ref ar), .val (.ref ar), .val (.int (2 : Int32)), .val (.int (0 : Int32)), .val (.int v0)] [(.int (11 : Int32)), (.int v0)]))
  by_cases hc10 : v0 = (11 : Int32)
  · skip
    refine own_st (fun _ k => XS.icmpYes X0.here hx rfl (pc0 := 21) (pc' := 31) rfl (hb hby d1_21) rfl (teq hc10).1 (by decide) (by decide) k) ?_
    show own_Go _ _ _ _ (s₁.setTop (mkF m 31 #[.val (.ref ar), .val (.ref ar), .val (.int (2 : Int32)), .val (.int (0 : Int32)), .val (.int v0)] []))
    refine own_st (fun _ k => XS.iconst X0.here hx rfl (hb hby d1_31) k) ?_
    show own_Go _ _ _ _ (s₁.setTop (mkF m 32 #[.val (.ref ar), .val (.ref ar), .val (.int (2 : Int32)), .val (.int (0 : Int32)), .val (.int v0)] [(.int (0 : Int32))]))
    obtain ⟨fs, hr, hrun, hended, hW, hsame⟩ := X0.leave (v := some (.int (0 : Int32))) (fun h => by rw [Bd.returns] at h; cases h)
    refine own_out (retN X0 hx (t := .boolean) Bd.returns (by simp) (hb hby d1_32) hr) ⟨hrun, hended, _, _, rfl, ?_, ⟨_, rfl⟩, hW, hsame.mono (by decide) (by decide)⟩
    show Q1_2 Z ar kk v0 v1 h0 n0 _ s₁.heap _
    have hv : own_ca2 v0 v1 = (0 : Int32) := by
      unfold own_ca2
      rw [if_pos hc10]
    exact ⟨by rw [hv], N0, e0⟩
  · skip
    refine own_st (fun _ k => XS.icmpNo X0.here hx rfl (hb hby d1_21) rfl (feq hc10).1 k) ?_
    show own_Go _ _ _ _ (s₁.setTop (mkF m 24 #[.val (.ref ar), .val (.ref ar), .val (.int (2 : Int32)), .val (.int (0 : Int32)), .val (.int v0)] []))
    refine own_st (fun _ k => XS.iload X0.here hx rfl (hb hby d1_24) rfl k) ?_
    show own_Go _ _ _ _ (s₁.setTop (mkF m 26 #[.val (.ref ar), .val (.ref ar), .val (.int (2 : Int32)), .val (.int (0 : Int32)), .val (.int v0)] [(.int v0)]))
    refine own_st (fun _ k => XS.bipush X0.here hx rfl (hb hby d1_26) k) ?_
    show own_Go _ _ _ _ (s₁.setTop (mkF m 28 #[.val (.ref ar), .val (.ref ar), .val (.int (2 : Int32)), .val (.int (0 : Int32)), .val (.int v0)] [(.int (28 : Int32)), (.int v0)]))
    by_cases hc11 : v0 = (28 : Int32)
    · skip
      refine own_st (fun _ k => XS.icmpNo X0.here hx rfl (hb hby d1_28) rfl (teq hc11).2 k) ?_
      show own_Go _ _ _ _ (s₁.setTop (mkF m 31 #[.val (.ref ar), .val (.ref ar), .val (.int (2 : Int32)), .val (.int (0 : Int32)), .val (.int v0)] []))
      refine own_st (fun _ k => XS.iconst X0.here hx rfl (hb hby d1_31) k) ?_
      show own_Go _ _ _ _ (s₁.setTop (mkF m 32 #[.val (.ref ar), .val (.ref ar), .val (.int (2 : Int32)), .val (.int (0 : Int32)), .val (.int v0)] [(.int (0 : Int32))]))
      obtain ⟨fs, hr, hrun, hended, hW, hsame⟩ := X0.leave (v := some (.int (0 : Int32))) (fun h => by rw [Bd.returns] at h; cases h)
      refine own_out (retN X0 hx (t := .boolean) Bd.returns (by simp) (hb hby d1_32) hr) ⟨hrun, hended, _, _, rfl, ?_, ⟨_, rfl⟩, hW, hsame.mono (by decide) (by decide)⟩
      show Q1_2 Z ar kk v0 v1 h0 n0 _ s₁.heap _
      have hv : own_ca2 v0 v1 = (0 : Int32) := by
        unfold own_ca2
        rw [if_neg hc10, if_pos hc11]
      exact ⟨by rw [hv], N0, e0⟩
    · skip
      refine own_st (fun _ k => XS.icmpYes X0.here hx rfl (pc0 := 28) (pc' := 33) rfl (hb hby d1_28) rfl (feq hc11).2 (by decide) (by decide) k) ?_
      show own_Go _ _ _ _ (s₁.setTop (mkF m 33 #[.val (.ref ar), .val (.ref ar), .val (.int (2 : Int32)), .val (.int (0 : Int32)), .val (.int v0)] []))
      refine own_st (fun _ k => XS.iinc X0.here hx rfl (hb hby d1_33) rfl (l' := #[.val (.ref ar), .val (.ref ar), .val (.int (2 : Int32)), .val (.int (1 : Int32)), .val (.int v0)]) rfl k) ?_
      show own_Go _ _ _ _ (s₁.setTop (mkF m 36 #[.val (.ref ar), .val (.ref ar), .val (.int (2 : Int32)), .val (.int (1 : Int32)), .val (.int v0)] []))
      refine own_st (fun _ k => XS.goto X0.here hx rfl (pc0 := 36) (pc' := 7) rfl (hb hby d1_36) (by decide) (by decide) k) ?_
      show own_Go _ _ _ _ (s₁.setTop (mkF m 7 #[.val (.ref ar), .val (.ref ar), .val (.int (2 : Int32)), .val (.int (1 : Int32)), .val (.int v0)] []))
      refine own_st (fun _ k => XS.iloadN X0.here hx rfl (hb hby d1_7) rfl k) ?_
      show own_Go _ _ _ _ (s₁.setTop (mkF m 8 #[.val (.ref ar), .val (.ref ar), .val (.int (2 : Int32)), .val (.int (1 : Int32)), .val (.int v0)] [(.int (1 : Int32))]))
      refine own_st (fun _ k => XS.iloadN X0.here hx rfl (hb hby d1_8) rfl k) ?_
      show own_Go _ _ _ _ (s₁.setTop (mkF m 9 #[.val (.ref ar), .val (.ref ar), .val (.int (2 : Int32)), .val (.int (1 : Int32)), .val (.int v0)] [(.int (2 : Int32)), (.int (1 : Int32))]))
      refine own_st (fun _ k => XS.icmpNo X0.here hx rfl (hb hby d1_9) rfl (tlt (by decide : ((1 : Int32) < (2 : Int32)))).2.1 k) ?_
      show own_Go _ _ _ _ (s₁.setTop (mkF m 12 #[.val (.ref ar), .val (.ref ar), .val (.int (2 : Int32)), .val (.int (1 : Int32)), .val (.int v0)] []))
      refine own_st (fun _ k => XS.aloadN X0.here hx rfl (hb hby d1_12) rfl rfl k) ?_
      show own_Go _ _ _ _ (s₁.setTop (mkF m 13 #[.val (.ref ar), .val (.ref ar), .val (.int (2 : Int32)), .val (.int (1 : Int32)), .val (.int v0)] [(.ref ar)]))
      refine own_st (fun _ k => XS.iloadN X0.here hx rfl (hb hby d1_13) rfl k) ?_
      show own_Go _ _ _ _ (s₁.setTop (mkF m 14 #[.val (.ref ar), .val (.ref ar), .val (.int (2 : Int32)), .val (.int (1 : Int32)), .val (.int v0)] [(.int (1 : Int32)), (.ref ar)]))
      obtain ⟨cl12, Ar12, -, Sz12, Nn12, Hs12, -⟩ := id V_ar
      have hin12 : ¬ ((1 : Int32) < 0 ∨ cl12.slots.size ≤ ((1 : Int32)).toNatClampNeg) := inb_of Sz12 ⟨(by decide : ¬ ((1 : Int32) < (0 : Int32))), (by decide : (1 : Int32) < (2 : Int32))⟩
      have hat12 : cl12.slots[((1 : Int32)).toNatClampNeg]? = some (.int v1) := Hs12.at hin12 rfl
      refine own_st (X0.baloadBytes hx (j := (1 : Int32)) (v := (.int v1)) (by rw [e0]; exact Ar12.1) (State.isArrayOf_alike hZ.alike Ar12.2.1) Ar12.2.2 hin12 hat12 (g := (mkF m 14 #[.val (.ref ar), .val (.ref ar), .val (.int (2 : Int32)), .val (.int (1 : Int32)), .val (.int v0)] [(.int (1 : Int32)), (.ref ar)])) rfl rfl (hb hby d1_14)) ?_
      show own_Go _ _ _ _ (s₁.setTop (mkF m 15 #[.val (.ref ar), .val (.ref ar), .val (.int (2 : Int32)), .val (.int (1 : Int32)), .val (.int v0)] [(.int v1)]))
      refine own_st (fun _ k => XS.istore X0.here hx rfl (hb hby d1_15) rfl (l' := #[.val (.ref ar), .val (.ref ar), .val (.int (2 : Int32)), .val (.int (1 : Int32)), .val (.int v1)]) rfl k) ?_
      show own_Go _ _ _ _ (s₁.setTop (mkF m 17 #[.val (.ref ar), .val (.ref ar), .val (.int (2 : Int32)), .val (.int (1 : Int32)), .val (.int v1)] []))
      refine own_st (fun _ k => XS.iload X0.here hx rfl (hb hby d1_17) rfl k) ?_
      show own_Go _ _ _ _ (s₁.setTop (mkF m 19 #[.val (.ref ar), .val (.ref ar), .val (.int (2 : Int32)), .val (.int (1 : Int32)), .val (.int v1)] [(.int v1)]))
      refine own_st (fun _ k => XS.bipush X0.here hx rfl (hb hby d1_19) k) ?_
      show own_Go _ _ _ _ (s₁.setTop (mkF m 21 #[.val (.ref ar), .val (.ref ar), .val (.int (2 : Int32)), .val (.int (1 : Int32)), .val (.int v1)] [(.int (11 : Int32)), (.int v1)]))
      by_cases hc13 : v1 = (11 : Int32)
      · skip
        refine own_st (fun _ k => XS.icmpYes X0.here hx rfl (pc0 := 21) (pc' := 31) rfl (hb hby d1_21) rfl (teq hc13).1 (by decide) (by decide) k) ?_
        show own_Go _ _ _ _ (s₁.setTop (mkF m 31 #[.val (.ref ar), .val (.ref ar), .val (.int (2 : Int32)), .val (.int (1 : Int32)), .val (.int v1)] []))
        refine own_st (fun _ k => XS.iconst X0.here hx rfl (hb hby d1_31) k) ?_
        show own_Go _ _ _ _ (s₁.setTop (mkF m 32 #[.val (.ref ar), .val (.ref ar), .val (.int (2 : Int32)), .val (.int (1 : Int32)), .val (.int v1)] [(.int (0 : Int32))]))
        obtain ⟨fs, hr, hrun, hended, hW, hsame⟩ := X0.leave (v := some (.int (0 : Int32))) (fun h => by rw [Bd.returns] at h; cases h)
        refine own_out (retN X0 hx (t := .boolean) Bd.returns (by simp) (hb hby d1_32) hr) ⟨hrun, hended, _, _, rfl, ?_, ⟨_, rfl⟩, hW, hsame.mono (by decide) (by decide)⟩
        show Q1_2 Z ar kk v0 v1 h0 n0 _ s₁.heap _
        have hv : own_ca2 v0 v1 = (0 : Int32) := by
          unfold own_ca2
          rw [if_neg hc10, if_neg hc11, if_pos hc13]
        exact ⟨by rw [hv], N0, e0⟩
      · skip
        refine own_st (fun _ k => XS.icmpNo X0.here hx rfl (hb hby d1_21) rfl (feq hc13).1 k) ?_
        show own_Go _ _ _ _ (s₁.setTop (mkF m 24 #[.val (.ref ar), .val (.ref ar), .val (.int (2 : Int32)), .val (.int (1 : Int32)), .val (.int v1)] []))
        refine own_st (fun _ k => XS.iload X0.here hx rfl (hb hby d1_24) rfl k) ?_
        show own_Go _ _ _ _ (s₁.setTop (mkF m 26 #[.val (.ref ar), .val (.ref ar), .val (.int (2 : Int32)), .val (.int (1 : Int32)), .val (.int v1)] [(.int v1)]))
        refine own_st (fun _ k => XS.bipush X0.here hx rfl (hb hby d1_26) k) ?_
        show own_Go _ _ _ _ (s₁.setTop (mkF m 28 #[.val (.ref ar), .val (.ref ar), .val (.int (2 : Int32)), .val (.int (1 : Int32)), .val (.int v1)] [(.int (28 : Int32)), (.int v1)]))
        by_cases hc14 : v1 = (28 : Int32)
        · skip
          refine own_st (fun _ k => XS.icmpNo X0.here hx rfl (hb hby d1_28) rfl (teq hc14).2 k) ?_
          show own_Go _ _ _ _ (s₁.setTop (mkF m 31 #[.val (.ref ar), .val (.ref ar), .val (.int (2 : Int32)), .val (.int (1 : Int32)), .val (.int v1)] []))
          refine own_st (fun _ k => XS.iconst X0.here hx rfl (hb hby d1_31) k) ?_
          show own_Go _ _ _ _ (s₁.setTop (mkF m 32 #[.val (.ref ar), .val (.ref ar), .val (.int (2 : Int32)), .val (.int (1 : Int32)), .val (.int v1)] [(.int (0 : Int32))]))
          obtain ⟨fs, hr, hrun, hended, hW, hsame⟩ := X0.leave (v := some (.int (0 : Int32))) (fun h => by rw [Bd.returns] at h; cases h)
          refine own_out (retN X0 hx (t := .boolean) Bd.returns (by simp) (hb hby d1_32) hr) ⟨hrun, hended, _, _, rfl, ?_, ⟨_, rfl⟩, hW, hsame.mono (by decide) (by decide)⟩
          show Q1_2 Z ar kk v0 v1 h0 n0 _ s₁.heap _
          have hv : own_ca2 v0 v1 = (0 : Int32) := by
            unfold own_ca2
            rw [if_neg hc10, if_neg hc11, if_neg hc13, if_pos hc14]
          exact ⟨by rw [hv], N0, e0⟩
        · skip
          refine own_st (fun _ k => XS.icmpYes X0.here hx rfl (pc0 := 28) (pc' := 33) rfl (hb hby d1_28) rfl (feq hc14).2 (by decide) (by decide) k) ?_
          show own_Go _ _ _ _ (s₁.setTop (mkF m 33 #[.val (.ref ar), .val (.ref ar), .val (.int (2 : Int32)), .val (.int (1 : Int32)), .val (.int v1)] []))
          refine own_st (fun _ k => XS.iinc X0.here hx rfl (hb hby d1_33) rfl (l' := #[.val (.ref ar), .val (.ref ar), .val (.int (2 : Int32)), .val (.int (2 : Int32)), .val (.int v1)]) rfl k) ?_
          show own_Go _ _ _ _ (s₁.setTop (mkF m 36 #[.val (.ref ar), .val (.ref ar), .val (.int (2 : Int32)), .val (.int (2 : Int32)), .val (.int v1)] []))
          refine own_st (fun _ k => XS.goto X0.here hx rfl (pc0 := 36) (pc' := 7) rfl (hb hby d1_36) (by decide) (by decide) k) ?_
          show own_Go _ _ _ _ (s₁.setTop (mkF m 7 #[.val (.ref ar), .val (.ref ar), .val (.int (2 : Int32)), .val (.int (2 : Int32)), .val (.int v1)] []))
          refine own_st (fun _ k => XS.iloadN X0.here hx rfl (hb hby d1_7) rfl k) ?_
          show own_Go _ _ _ _ (s₁.setTop (mkF m 8 #[.val (.ref ar), .val (.ref ar), .val (.int (2 : Int32)), .val (.int (2 : Int32)), .val (.int v1)] [(.int (2 : Int32))]))
          refine own_st (fun _ k => XS.iloadN X0.here hx rfl (hb hby d1_8) rfl k) ?_
          show own_Go _ _ _ _ (s₁.setTop (mkF m 9 #[.val (.ref ar), .val (.ref ar), .val (.int (2 : Int32)), .val (.int (2 : Int32)), .val (.int v1)] [(.int (2 : Int32)), (.int (2 : Int32))]))
          refine own_st (fun _ k => XS.icmpYes X0.here hx rfl (pc0 := 9) (pc' := 39) rfl (hb hby d1_9) rfl (flt (by decide : ¬ ((2 : Int32) < (2 : Int32)))).2.1 (by decide) (by decide) k) ?_
          show own_Go _ _ _ _ (s₁.setTop (mkF m 39 #[.val (.ref ar), .val (.ref ar), .val (.int (2 : Int32)), .val (.int (2 : Int32)), .val (.int v1)] []))
          refine own_st (fun _ k => XS.iconst X0.here hx rfl (hb hby d1_39) k) ?_
          show own_Go _ _ _ _ (s₁.setTop (mkF m 40 #[.val (.ref ar), .val (.ref ar), .val (.int (2 : Int32)), .val (.int (2 : Int32)), .val (.int v1)] [(.int (1 : Int32))]))
          obtain ⟨fs, hr, hrun, hended, hW, hsame⟩ := X0.leave (v := some (.int (1 : Int32))) (fun h => by rw [Bd.returns] at h; cases h)
          refine own_out (retN X0 hx (t := .boolean) Bd.returns (by simp) (hb hby d1_40) hr) ⟨hrun, hended, _, _, rfl, ?_, ⟨_, rfl⟩, hW, hsame.mono (by decide) (by decide)⟩
          show Q1_2 Z ar kk v0 v1 h0 n0 _ s₁.heap _
          have hv : own_ca2 v0 v1 = (1 : Int32) := by
            unfold own_ca2
            rw [if_neg hc10, if_neg hc11, if_neg hc13, if_neg hc14]
          exact ⟨by rw [hv], N0, e0⟩
def own_ca3 (v0 : Int32) (v1 : Int32) (v2 : Int32) : Int32 := (if v0 = (11 : Int32) then (0 : Int32) else (if v0 = (28 : Int32) then (0 : Int32) else (if v1 = (11 : Int32) then (0 : Int32) else (if v1 = (28 : Int32) then (0 : Int32) else (if v2 = (11 : Int32) then (0 : Int32) else (if v2 = (28 : Int32) then (0 : Int32) else (1 : Int32)))))))
def Q1_3 (Z : State) (ar : Addr) (kk : ClassId) (v0 : Int32) (v1 : Int32) (v2 : Int32) (h0 : Heap) (n0 : Nat) (v : Option Value) (h : Heap) (L : List Loc) : Prop := v = some (.int (own_ca3 v0 v1 v2)) ∧ Fr n0 L ∧ h = h0
theorem ef_1_3 (m : MethodId) (x0 : Addr) : entryFrame m #[(.ref x0)] 5 = mkF m 0 #[.val (.ref x0), .unset, .unset, .unset, .unset] [] := by first | (simp [entryFrame, mkF, argsToLocals, Value.category]; done) | rfl
set_option maxRecDepth 65536 in
set_option maxHeartbeats 40000000 in
theorem rm1_3 (l : Launch) (Z : State) (a0 : Array Value) (hw : ∀ d ∈ tables_1, d.before a0 Z = true) (ws : List Jvm.Cond) (ar : Addr) (kk : ClassId) (v0 : Int32) (v1 : Int32) (v2 : Int32) (h0 : Heap) (n0 : Nat) (Z0 : n0 ≤ h0.size) (V_ar : Arv Z h0 ar kk .byte (3 : Int32) [.int v0, .int v1, .int v2] (.int (0 : Int32))) :
    MetFree l (⟨"quillvax/mllp/Mllp", "carries", "([B)Z"⟩ : MethodName) (head1 (Jvm.Cond.code (⟨"quillvax/mllp/Mllp", "carries", "([B)Z"⟩ : MethodName) prog_7_method_2_code 5 (some .boolean) :: ws) ({ frames := 0, cells := 0, slots := 0, locals := 0 } : Room)) (fun a U => a = #[(.ref ar)] ∧ Z.Warmed39 U.vm ∧ U.heap = h0) (fun _ _ _ _ _ => True) (fun _ U o U' => ∃ v L, o = .returned v ∧ Q1_3 Z ar kk v0 v1 v2 h0 n0 v U'.heap L ∧ FrameEnd U o U' L ({ frames := 0, cells := 0, slots := 0, locals := 0 } : Room).cells ({ frames := 0, cells := 0, slots := 0, locals := 0 } : Room).slots) := by
  refine MetFree.of_bodySF (plainFor_of_name own_pn1) hisR ?_
  intro p e s m args below meth c s₁ Bd hml0 hP hK
  obtain ⟨rfl, hZ, hh⟩ := hP
  have hx := Bd.exec
  have hby := Bd.bytes
  have hml : c.maxLocals = 5 := hml0
  have hown : s.vm.findClass "quillvax/mllp/Mllp" = some m.cls := findClass_of_methodNamed Bd.named
  have hnm := (name_of_methodNamed Bd.named Bd.method).1
  have X0 : Stand p l e ({ frames := 0, cells := 0, slots := 0, locals := 0 } : Room) s m #[(.ref ar)] below meth c s₁ [] 0 0 := Stand.of_body Bd
  have e0 : s₁.heap = h0 := by rw [← hh, Bd.state]; rfl
  have N0 := Fr.nil n0
  refine own_in ?_
  refine own_st (fun _ k => castTop (ef_1_3 m ar) k) ?_
  have K0 : Keep h0 h0 [] := Keep.refl h0 []
  show own_Go _ _ _ _ (s₁.setTop (mkF m 0 #[.val (.ref ar), .unset, .unset, .unset, .unset] []))
  refine own_st (fun _ k => XS.aloadN X0.here hx rfl (hb hby d1_0) rfl rfl k) ?_
  show own_Go _ _ _ _ (s₁.setTop (mkF m 1 #[.val (.ref ar), .unset, .unset, .unset, .unset] [(.ref ar)]))
  refine own_st (fun _ k => XS.astoreN X0.here hx rfl (hb hby d1_1) rfl rfl (l' := #[.val (.ref ar), .val (.ref ar), .unset, .unset, .unset]) rfl k) ?_
  show own_Go _ _ _ _ (s₁.setTop (mkF m 2 #[.val (.ref ar), .val (.ref ar), .unset, .unset, .unset] []))
  refine own_st (fun _ k => XS.aloadN X0.here hx rfl (hb hby d1_2) rfl rfl k) ?_
  show own_Go _ _ _ _ (s₁.setTop (mkF m 3 #[.val (.ref ar), .val (.ref ar), .unset, .unset, .unset] [(.ref ar)]))
  obtain ⟨cl15, Ar15, -, Sz15, Nn15, -, -⟩ := id V_ar
  refine own_st (X0.arraylength hx (by rw [e0]; exact Ar15.1) (State.isArrayOf_alike hZ.alike Ar15.2.1) (g := (mkF m 3 #[.val (.ref ar), .val (.ref ar), .unset, .unset, .unset] [(.ref ar)])) rfl rfl (hb hby d1_3)) ?_
  rw [len_of Sz15 Nn15]
  show own_Go _ _ _ _ (s₁.setTop (mkF m 4 #[.val (.ref ar), .val (.ref ar), .unset, .unset, .unset] [(.int (3 : Int32))]))
  refine own_st (fun _ k => XS.istoreN X0.here hx rfl (hb hby d1_4) rfl (l' := #[.val (.ref ar), .val (.ref ar), .val (.int (3 : Int32)), .unset, .unset]) rfl k) ?_
  show own_Go _ _ _ _ (s₁.setTop (mkF m 5 #[.val (.ref ar), .val (.ref ar), .val (.int (3 : Int32)), .unset, .unset] []))
  refine own_st (fun _ k => XS.iconst X0.here hx rfl (hb hby d1_5) k) ?_
  show own_Go _ _ _ _ (s₁.setTop (mkF m 6 #[.val (.ref ar), .val (.ref ar), .val (.int (3 : Int32)), .unset, .unset] [(.int (0 : Int32))]))
  refine own_st (fun _ k => XS.istoreN X0.here hx rfl (hb hby d1_6) rfl (l' := #[.val (.ref ar), .val (.ref ar), .val (.int (3 : Int32)), .val (.int (0 : Int32)), .unset]) rfl k) ?_
  show own_Go _ _ _ _ (s₁.setTop (mkF m 7 #[.val (.ref ar), .val (.ref ar), .val (.int (3 : Int32)), .val (.int (0 : Int32)), .unset] []))
  refine own_st (fun _ k => XS.iloadN X0.here hx rfl (hb hby d1_7) rfl k) ?_
  show own_Go _ _ _ _ (s₁.setTop (mkF m 8 #[.val (.ref ar), .val (.ref ar), .val (.int (3 : Int32)), .val (.int (0 : Int32)), .unset] [(.int (0 : Int32))]))
  refine own_st (fun _ k => XS.iloadN X0.here hx rfl (hb hby d1_8) rfl k) ?_
  show own_Go _ _ _ _ (s₁.setTop (mkF m 9 #[.val (.ref ar), .val (.ref ar), .val (.int (3 : Int32)), .val (.int (0 : Int32)), .unset] [(.int (3 : Int32)), (.int (0 : Int32))]))
  refine own_st (fun _ k => XS.icmpNo X0.here hx rfl (hb hby d1_9) rfl (tlt (by decide : ((0 : Int32) < (3 : Int32)))).2.1 k) ?_
  show own_Go _ _ _ _ (s₁.setTop (mkF m 12 #[.val (.ref ar), .val (.ref ar), .val (.int (3 : Int32)), .val (.int (0 : Int32)), .unset] []))
  refine own_st (fun _ k => XS.aloadN X0.here hx rfl (hb hby d1_12) rfl rfl k) ?_
  show own_Go _ _ _ _ (s₁.setTop (mkF m 13 #[.val (.ref ar), .val (.ref ar), .val (.int (3 : Int32)), .val (.int (0 : Int32)), .unset] [(.ref ar)]))
  refine own_st (fun _ k => XS.iloadN X0.here hx rfl (hb hby d1_13) rfl k) ?_
  show own_Go _ _ _ _ (s₁.setTop (mkF m 14 #[.val (.ref ar), .val (.ref ar), .val (.int (3 : Int32)), .val (.int (0 : Int32)), .unset] [(.int (0 : Int32)), (.ref ar)]))
  obtain ⟨cl16, Ar16, -, Sz16, Nn16, Hs16, -⟩ := id V_ar
  have hin16 : ¬ ((0 : Int32) < 0 ∨ cl16.slots.size ≤ ((0 : Int32)).toNatClampNeg) := inb_of Sz16 ⟨(by decide : ¬ ((0 : Int32) < (0 : Int32))), (by decide : (0 : Int32) < (3 : Int32))⟩
  have hat16 : cl16.slots[((0 : Int32)).toNatClampNeg]? = some (.int v0) := Hs16.at hin16 rfl
  refine own_st (X0.baloadBytes hx (j := (0 : Int32)) (v := (.int v0)) (by rw [e0]; exact Ar16.1) (State.isArrayOf_alike hZ.alike Ar16.2.1) Ar16.2.2 hin16 hat16 (g := (mkF m 14 #[.val (.ref ar), .val (.ref ar), .val (.int (3 : Int32)), .val (.int (0 : Int32)), .unset] [(.int (0 : Int32)), (.ref ar)])) rfl rfl (hb hby d1_14)) ?_
  show own_Go _ _ _ _ (s₁.setTop (mkF m 15 #[.val (.ref ar), .val (.ref ar), .val (.int (3 : Int32)), .val (.int (0 : Int32)), .unset] [(.int v0)]))
  refine own_st (fun _ k => XS.istore X0.here hx rfl (hb hby d1_15) rfl (l' := #[.val (.ref ar), .val (.ref ar), .val (.int (3 : Int32)), .val (.int (0 : Int32)), .val (.int v0)]) rfl k) ?_
  show own_Go _ _ _ _ (s₁.setTop (mkF m 17 #[.val (.ref ar), .val (.ref ar), .val (.int (3 : Int32)), .val (.int (0 : Int32)), .val (.int v0)] []))
  refine own_st (fun _ k => XS.iload X0.here hx rfl (hb hby d1_17) rfl k) ?_
  show own_Go _ _ _ _ (s₁.setTop (mkF m 19 #[.val (.ref ar), .val (.ref ar), .val (.int (3 : Int32)), .val (.int (0 : Int32)), .val (.int v0)] [(.int v0)]))
  refine own_st (fun _ k => XS.bipush X0.here hx rfl (hb hby d1_19) k) ?_
  show own_Go _ _ _ _ (s₁.setTop (mkF m 21 #[.val (.ref ar), .val (.ref ar), .val (.int (3 : Int32)), .val (.int (0 : Int32)), .val (.int v0)] [(.int (11 : Int32)), (.int v0)]))
  by_cases hc17 : v0 = (11 : Int32)
  · skip
    refine own_st (fun _ k => XS.icmpYes X0.here hx rfl (pc0 := 21) (pc' := 31) rfl (hb hby d1_21) rfl (teq hc17).1 (by decide) (by decide) k) ?_
    show own_Go _ _ _ _ (s₁.setTop (mkF m 31 #[.val (.ref ar), .val (.ref ar), .val (.int (3 : Int32)), .val (.int (0 : Int32)), .val (.int v0)] []))
    refine own_st (fun _ k => XS.iconst X0.here hx rfl (hb hby d1_31) k) ?_
    show own_Go _ _ _ _ (s₁.setTop (mkF m 32 #[.val (.ref ar), .val (.ref ar), .val (.int (3 : Int32)), .val (.int (0 : Int32)), .val (.int v0)] [(.int (0 : Int32))]))
    obtain ⟨fs, hr, hrun, hended, hW, hsame⟩ := X0.leave (v := some (.int (0 : Int32))) (fun h => by rw [Bd.returns] at h; cases h)
    refine own_out (retN X0 hx (t := .boolean) Bd.returns (by simp) (hb hby d1_32) hr) ⟨hrun, hended, _, _, rfl, ?_, ⟨_, rfl⟩, hW, hsame.mono (by decide) (by decide)⟩
    show Q1_3 Z ar kk v0 v1 v2 h0 n0 _ s₁.heap _
    have hv : own_ca3 v0 v1 v2 = (0 : Int32) := by
      unfold own_ca3
      rw [if_pos hc17]
    exact ⟨by rw [hv], N0, e0⟩
  · skip
    refine own_st (fun _ k => XS.icmpNo X0.here hx rfl (hb hby d1_21) rfl (feq hc17).1 k) ?_
    show own_Go _ _ _ _ (s₁.setTop (mkF m 24 #[.val (.ref ar), .val (.ref ar), .val (.int (3 : Int32)), .val (.int (0 : Int32)), .val (.int v0)] []))
    refine own_st (fun _ k => XS.iload X0.here hx rfl (hb hby d1_24) rfl k) ?_
    show own_Go _ _ _ _ (s₁.setTop (mkF m 26 #[.val (.ref ar), .val (.ref ar), .val (.int (3 : Int32)), .val (.int (0 : Int32)), .val (.int v0)] [(.int v0)]))
    refine own_st (fun _ k => XS.bipush X0.here hx rfl (hb hby d1_26) k) ?_
    show own_Go _ _ _ _ (s₁.setTop (mkF m 28 #[.val (.ref ar), .val (.ref ar), .val (.int (3 : Int32)), .val (.int (0 : Int32)), .val (.int v0)] [(.int (28 : Int32)), (.int v0)]))
    by_cases hc18 : v0 = (28 : Int32)
    · skip
      refine own_st (fun _ k => XS.icmpNo X0.here hx rfl (hb hby d1_28) rfl (teq hc18).2 k) ?_
      show own_Go _ _ _ _ (s₁.setTop (mkF m 31 #[.val (.ref ar), .val (.ref ar), .val (.int (3 : Int32)), .val (.int (0 : Int32)), .val (.int v0)] []))
      refine own_st (fun _ k => XS.iconst X0.here hx rfl (hb hby d1_31) k) ?_
      show own_Go _ _ _ _ (s₁.setTop (mkF m 32 #[.val (.ref ar), .val (.ref ar), .val (.int (3 : Int32)), .val (.int (0 : Int32)), .val (.int v0)] [(.int (0 : Int32))]))
      obtain ⟨fs, hr, hrun, hended, hW, hsame⟩ := X0.leave (v := some (.int (0 : Int32))) (fun h => by rw [Bd.returns] at h; cases h)
      refine own_out (retN X0 hx (t := .boolean) Bd.returns (by simp) (hb hby d1_32) hr) ⟨hrun, hended, _, _, rfl, ?_, ⟨_, rfl⟩, hW, hsame.mono (by decide) (by decide)⟩
      show Q1_3 Z ar kk v0 v1 v2 h0 n0 _ s₁.heap _
      have hv : own_ca3 v0 v1 v2 = (0 : Int32) := by
        unfold own_ca3
        rw [if_neg hc17, if_pos hc18]
      exact ⟨by rw [hv], N0, e0⟩
    · skip
      refine own_st (fun _ k => XS.icmpYes X0.here hx rfl (pc0 := 28) (pc' := 33) rfl (hb hby d1_28) rfl (feq hc18).2 (by decide) (by decide) k) ?_
      show own_Go _ _ _ _ (s₁.setTop (mkF m 33 #[.val (.ref ar), .val (.ref ar), .val (.int (3 : Int32)), .val (.int (0 : Int32)), .val (.int v0)] []))
      refine own_st (fun _ k => XS.iinc X0.here hx rfl (hb hby d1_33) rfl (l' := #[.val (.ref ar), .val (.ref ar), .val (.int (3 : Int32)), .val (.int (1 : Int32)), .val (.int v0)]) rfl k) ?_
      show own_Go _ _ _ _ (s₁.setTop (mkF m 36 #[.val (.ref ar), .val (.ref ar), .val (.int (3 : Int32)), .val (.int (1 : Int32)), .val (.int v0)] []))
      refine own_st (fun _ k => XS.goto X0.here hx rfl (pc0 := 36) (pc' := 7) rfl (hb hby d1_36) (by decide) (by decide) k) ?_
      show own_Go _ _ _ _ (s₁.setTop (mkF m 7 #[.val (.ref ar), .val (.ref ar), .val (.int (3 : Int32)), .val (.int (1 : Int32)), .val (.int v0)] []))
      refine own_st (fun _ k => XS.iloadN X0.here hx rfl (hb hby d1_7) rfl k) ?_
      show own_Go _ _ _ _ (s₁.setTop (mkF m 8 #[.val (.ref ar), .val (.ref ar), .val (.int (3 : Int32)), .val (.int (1 : Int32)), .val (.int v0)] [(.int (1 : Int32))]))
      refine own_st (fun _ k => XS.iloadN X0.here hx rfl (hb hby d1_8) rfl k) ?_
      show own_Go _ _ _ _ (s₁.setTop (mkF m 9 #[.val (.ref ar), .val (.ref ar), .val (.int (3 : Int32)), .val (.int (1 : Int32)), .val (.int v0)] [(.int (3 : Int32)), (.int (1 : Int32))]))
      refine own_st (fun _ k => XS.icmpNo X0.here hx rfl (hb hby d1_9) rfl (tlt (by decide : ((1 : Int32) < (3 : Int32)))).2.1 k) ?_
      show own_Go _ _ _ _ (s₁.setTop (mkF m 12 #[.val (.ref ar), .val (.ref ar), .val (.int (3 : Int32)), .val (.int (1 : Int32)), .val (.int v0)] []))
      refine own_st (fun _ k => XS.aloadN X0.here hx rfl (hb hby d1_12) rfl rfl k) ?_
      show own_Go _ _ _ _ (s₁.setTop (mkF m 13 #[.val (.ref ar), .val (.ref ar), .val (.int (3 : Int32)), .val (.int (1 : Int32)), .val (.int v0)] [(.ref ar)]))
      refine own_st (fun _ k => XS.iloadN X0.here hx rfl (hb hby d1_13) rfl k) ?_
      show own_Go _ _ _ _ (s₁.setTop (mkF m 14 #[.val (.ref ar), .val (.ref ar), .val (.int (3 : Int32)), .val (.int (1 : Int32)), .val (.int v0)] [(.int (1 : Int32)), (.ref ar)]))
      obtain ⟨cl19, Ar19, -, Sz19, Nn19, Hs19, -⟩ := id V_ar
      have hin19 : ¬ ((1 : Int32) < 0 ∨ cl19.slots.size ≤ ((1 : Int32)).toNatClampNeg) := inb_of Sz19 ⟨(by decide : ¬ ((1 : Int32) < (0 : Int32))), (by decide : (1 : Int32) < (3 : Int32))⟩
      have hat19 : cl19.slots[((1 : Int32)).toNatClampNeg]? = some (.int v1) := Hs19.at hin19 rfl
      refine own_st (X0.baloadBytes hx (j := (1 : Int32)) (v := (.int v1)) (by rw [e0]; exact Ar19.1) (State.isArrayOf_alike hZ.alike Ar19.2.1) Ar19.2.2 hin19 hat19 (g := (mkF m 14 #[.val (.ref ar), .val (.ref ar), .val (.int (3 : Int32)), .val (.int (1 : Int32)), .val (.int v0)] [(.int (1 : Int32)), (.ref ar)])) rfl rfl (hb hby d1_14)) ?_
      show own_Go _ _ _ _ (s₁.setTop (mkF m 15 #[.val (.ref ar), .val (.ref ar), .val (.int (3 : Int32)), .val (.int (1 : Int32)), .val (.int v0)] [(.int v1)]))
      refine own_st (fun _ k => XS.istore X0.here hx rfl (hb hby d1_15) rfl (l' := #[.val (.ref ar), .val (.ref ar), .val (.int (3 : Int32)), .val (.int (1 : Int32)), .val (.int v1)]) rfl k) ?_
      show own_Go _ _ _ _ (s₁.setTop (mkF m 17 #[.val (.ref ar), .val (.ref ar), .val (.int (3 : Int32)), .val (.int (1 : Int32)), .val (.int v1)] []))
      refine own_st (fun _ k => XS.iload X0.here hx rfl (hb hby d1_17) rfl k) ?_
      show own_Go _ _ _ _ (s₁.setTop (mkF m 19 #[.val (.ref ar), .val (.ref ar), .val (.int (3 : Int32)), .val (.int (1 : Int32)), .val (.int v1)] [(.int v1)]))
      refine own_st (fun _ k => XS.bipush X0.here hx rfl (hb hby d1_19) k) ?_
      show own_Go _ _ _ _ (s₁.setTop (mkF m 21 #[.val (.ref ar), .val (.ref ar), .val (.int (3 : Int32)), .val (.int (1 : Int32)), .val (.int v1)] [(.int (11 : Int32)), (.int v1)]))
      by_cases hc20 : v1 = (11 : Int32)
      · skip
        refine own_st (fun _ k => XS.icmpYes X0.here hx rfl (pc0 := 21) (pc' := 31) rfl (hb hby d1_21) rfl (teq hc20).1 (by decide) (by decide) k) ?_
        show own_Go _ _ _ _ (s₁.setTop (mkF m 31 #[.val (.ref ar), .val (.ref ar), .val (.int (3 : Int32)), .val (.int (1 : Int32)), .val (.int v1)] []))
        refine own_st (fun _ k => XS.iconst X0.here hx rfl (hb hby d1_31) k) ?_
        show own_Go _ _ _ _ (s₁.setTop (mkF m 32 #[.val (.ref ar), .val (.ref ar), .val (.int (3 : Int32)), .val (.int (1 : Int32)), .val (.int v1)] [(.int (0 : Int32))]))
        obtain ⟨fs, hr, hrun, hended, hW, hsame⟩ := X0.leave (v := some (.int (0 : Int32))) (fun h => by rw [Bd.returns] at h; cases h)
        refine own_out (retN X0 hx (t := .boolean) Bd.returns (by simp) (hb hby d1_32) hr) ⟨hrun, hended, _, _, rfl, ?_, ⟨_, rfl⟩, hW, hsame.mono (by decide) (by decide)⟩
        show Q1_3 Z ar kk v0 v1 v2 h0 n0 _ s₁.heap _
        have hv : own_ca3 v0 v1 v2 = (0 : Int32) := by
          unfold own_ca3
          rw [if_neg hc17, if_neg hc18, if_pos hc20]
        exact ⟨by rw [hv], N0, e0⟩
      · skip
        refine own_st (fun _ k => XS.icmpNo X0.here hx rfl (hb hby d1_21) rfl (feq hc20).1 k) ?_
        show own_Go _ _ _ _ (s₁.setTop (mkF m 24 #[.val (.ref ar), .val (.ref ar), .val (.int (3 : Int32)), .val (.int (1 : Int32)), .val (.int v1)] []))
        refine own_st (fun _ k => XS.iload X0.here hx rfl (hb hby d1_24) rfl k) ?_
        show own_Go _ _ _ _ (s₁.setTop (mkF m 26 #[.val (.ref ar), .val (.ref ar), .val (.int (3 : Int32)), .val (.int (1 : Int32)), .val (.int v1)] [(.int v1)]))
        refine own_st (fun _ k => XS.bipush X0.here hx rfl (hb hby d1_26) k) ?_
        show own_Go _ _ _ _ (s₁.setTop (mkF m 28 #[.val (.ref ar), .val (.ref ar), .val (.int (3 : Int32)), .val (.int (1 : Int32)), .val (.int v1)] [(.int (28 : Int32)), (.int v1)]))
        by_cases hc21 : v1 = (28 : Int32)
        · skip
          refine own_st (fun _ k => XS.icmpNo X0.here hx rfl (hb hby d1_28) rfl (teq hc21).2 k) ?_
          show own_Go _ _ _ _ (s₁.setTop (mkF m 31 #[.val (.ref ar), .val (.ref ar), .val (.int (3 : Int32)), .val (.int (1 : Int32)), .val (.int v1)] []))
          refine own_st (fun _ k => XS.iconst X0.here hx rfl (hb hby d1_31) k) ?_
          show own_Go _ _ _ _ (s₁.setTop (mkF m 32 #[.val (.ref ar), .val (.ref ar), .val (.int (3 : Int32)), .val (.int (1 : Int32)), .val (.int v1)] [(.int (0 : Int32))]))
          obtain ⟨fs, hr, hrun, hended, hW, hsame⟩ := X0.leave (v := some (.int (0 : Int32))) (fun h => by rw [Bd.returns] at h; cases h)
          refine own_out (retN X0 hx (t := .boolean) Bd.returns (by simp) (hb hby d1_32) hr) ⟨hrun, hended, _, _, rfl, ?_, ⟨_, rfl⟩, hW, hsame.mono (by decide) (by decide)⟩
          show Q1_3 Z ar kk v0 v1 v2 h0 n0 _ s₁.heap _
          have hv : own_ca3 v0 v1 v2 = (0 : Int32) := by
            unfold own_ca3
            rw [if_neg hc17, if_neg hc18, if_neg hc20, if_pos hc21]
          exact ⟨by rw [hv], N0, e0⟩
        · skip
          refine own_st (fun _ k => XS.icmpYes X0.here hx rfl (pc0 := 28) (pc' := 33) rfl (hb hby d1_28) rfl (feq hc21).2 (by decide) (by decide) k) ?_
          show own_Go _ _ _ _ (s₁.setTop (mkF m 33 #[.val (.ref ar), .val (.ref ar), .val (.int (3 : Int32)), .val (.int (1 : Int32)), .val (.int v1)] []))
          refine own_st (fun _ k => XS.iinc X0.here hx rfl (hb hby d1_33) rfl (l' := #[.val (.ref ar), .val (.ref ar), .val (.int (3 : Int32)), .val (.int (2 : Int32)), .val (.int v1)]) rfl k) ?_
          show own_Go _ _ _ _ (s₁.setTop (mkF m 36 #[.val (.ref ar), .val (.ref ar), .val (.int (3 : Int32)), .val (.int (2 : Int32)), .val (.int v1)] []))
          refine own_st (fun _ k => XS.goto X0.here hx rfl (pc0 := 36) (pc' := 7) rfl (hb hby d1_36) (by decide) (by decide) k) ?_
          show own_Go _ _ _ _ (s₁.setTop (mkF m 7 #[.val (.ref ar), .val (.ref ar), .val (.int (3 : Int32)), .val (.int (2 : Int32)), .val (.int v1)] []))
          refine own_st (fun _ k => XS.iloadN X0.here hx rfl (hb hby d1_7) rfl k) ?_
          show own_Go _ _ _ _ (s₁.setTop (mkF m 8 #[.val (.ref ar), .val (.ref ar), .val (.int (3 : Int32)), .val (.int (2 : Int32)), .val (.int v1)] [(.int (2 : Int32))]))
          refine own_st (fun _ k => XS.iloadN X0.here hx rfl (hb hby d1_8) rfl k) ?_
          show own_Go _ _ _ _ (s₁.setTop (mkF m 9 #[.val (.ref ar), .val (.ref ar), .val (.int (3 : Int32)), .val (.int (2 : Int32)), .val (.int v1)] [(.int (3 : Int32)), (.int (2 : Int32))]))
          refine own_st (fun _ k => XS.icmpNo X0.here hx rfl (hb hby d1_9) rfl (tlt (by decide : ((2 : Int32) < (3 : Int32)))).2.1 k) ?_
          show own_Go _ _ _ _ (s₁.setTop (mkF m 12 #[.val (.ref ar), .val (.ref ar), .val (.int (3 : Int32)), .val (.int (2 : Int32)), .val (.int v1)] []))
          refine own_st (fun _ k => XS.aloadN X0.here hx rfl (hb hby d1_12) rfl rfl k) ?_
          show own_Go _ _ _ _ (s₁.setTop (mkF m 13 #[.val (.ref ar), .val (.ref ar), .val (.int (3 : Int32)), .val (.int (2 : Int32)), .val (.int v1)] [(.ref ar)]))
          refine own_st (fun _ k => XS.iloadN X0.here hx rfl (hb hby d1_13) rfl k) ?_
          show own_Go _ _ _ _ (s₁.setTop (mkF m 14 #[.val (.ref ar), .val (.ref ar), .val (.int (3 : Int32)), .val (.int (2 : Int32)), .val (.int v1)] [(.int (2 : Int32)), (.ref ar)]))
          obtain ⟨cl22, Ar22, -, Sz22, Nn22, Hs22, -⟩ := id V_ar
          have hin22 : ¬ ((2 : Int32) < 0 ∨ cl22.slots.size ≤ ((2 : Int32)).toNatClampNeg) := inb_of Sz22 ⟨(by decide : ¬ ((2 : Int32) < (0 : Int32))), (by decide : (2 : Int32) < (3 : Int32))⟩
          have hat22 : cl22.slots[((2 : Int32)).toNatClampNeg]? = some (.int v2) := Hs22.at hin22 rfl
          refine own_st (X0.baloadBytes hx (j := (2 : Int32)) (v := (.int v2)) (by rw [e0]; exact Ar22.1) (State.isArrayOf_alike hZ.alike Ar22.2.1) Ar22.2.2 hin22 hat22 (g := (mkF m 14 #[.val (.ref ar), .val (.ref ar), .val (.int (3 : Int32)), .val (.int (2 : Int32)), .val (.int v1)] [(.int (2 : Int32)), (.ref ar)])) rfl rfl (hb hby d1_14)) ?_
          show own_Go _ _ _ _ (s₁.setTop (mkF m 15 #[.val (.ref ar), .val (.ref ar), .val (.int (3 : Int32)), .val (.int (2 : Int32)), .val (.int v1)] [(.int v2)]))
          refine own_st (fun _ k => XS.istore X0.here hx rfl (hb hby d1_15) rfl (l' := #[.val (.ref ar), .val (.ref ar), .val (.int (3 : Int32)), .val (.int (2 : Int32)), .val (.int v2)]) rfl k) ?_
          show own_Go _ _ _ _ (s₁.setTop (mkF m 17 #[.val (.ref ar), .val (.ref ar), .val (.int (3 : Int32)), .val (.int (2 : Int32)), .val (.int v2)] []))
          refine own_st (fun _ k => XS.iload X0.here hx rfl (hb hby d1_17) rfl k) ?_
          show own_Go _ _ _ _ (s₁.setTop (mkF m 19 #[.val (.ref ar), .val (.ref ar), .val (.int (3 : Int32)), .val (.int (2 : Int32)), .val (.int v2)] [(.int v2)]))
          refine own_st (fun _ k => XS.bipush X0.here hx rfl (hb hby d1_19) k) ?_
          show own_Go _ _ _ _ (s₁.setTop (mkF m 21 #[.val (.ref ar), .val (.ref ar), .val (.int (3 : Int32)), .val (.int (2 : Int32)), .val (.int v2)] [(.int (11 : Int32)), (.int v2)]))
          by_cases hc23 : v2 = (11 : Int32)
          · skip
            refine own_st (fun _ k => XS.icmpYes X0.here hx rfl (pc0 := 21) (pc' := 31) rfl (hb hby d1_21) rfl (teq hc23).1 (by decide) (by decide) k) ?_
            show own_Go _ _ _ _ (s₁.setTop (mkF m 31 #[.val (.ref ar), .val (.ref ar), .val (.int (3 : Int32)), .val (.int (2 : Int32)), .val (.int v2)] []))
            refine own_st (fun _ k => XS.iconst X0.here hx rfl (hb hby d1_31) k) ?_
            show own_Go _ _ _ _ (s₁.setTop (mkF m 32 #[.val (.ref ar), .val (.ref ar), .val (.int (3 : Int32)), .val (.int (2 : Int32)), .val (.int v2)] [(.int (0 : Int32))]))
            obtain ⟨fs, hr, hrun, hended, hW, hsame⟩ := X0.leave (v := some (.int (0 : Int32))) (fun h => by rw [Bd.returns] at h; cases h)
            refine own_out (retN X0 hx (t := .boolean) Bd.returns (by simp) (hb hby d1_32) hr) ⟨hrun, hended, _, _, rfl, ?_, ⟨_, rfl⟩, hW, hsame.mono (by decide) (by decide)⟩
            show Q1_3 Z ar kk v0 v1 v2 h0 n0 _ s₁.heap _
            have hv : own_ca3 v0 v1 v2 = (0 : Int32) := by
              unfold own_ca3
              rw [if_neg hc17, if_neg hc18, if_neg hc20, if_neg hc21, if_pos hc23]
            exact ⟨by rw [hv], N0, e0⟩
          · skip
            refine own_st (fun _ k => XS.icmpNo X0.here hx rfl (hb hby d1_21) rfl (feq hc23).1 k) ?_
            show own_Go _ _ _ _ (s₁.setTop (mkF m 24 #[.val (.ref ar), .val (.ref ar), .val (.int (3 : Int32)), .val (.int (2 : Int32)), .val (.int v2)] []))
            refine own_st (fun _ k => XS.iload X0.here hx rfl (hb hby d1_24) rfl k) ?_
            show own_Go _ _ _ _ (s₁.setTop (mkF m 26 #[.val (.ref ar), .val (.ref ar), .val (.int (3 : Int32)), .val (.int (2 : Int32)), .val (.int v2)] [(.int v2)]))
            refine own_st (fun _ k => XS.bipush X0.here hx rfl (hb hby d1_26) k) ?_
            show own_Go _ _ _ _ (s₁.setTop (mkF m 28 #[.val (.ref ar), .val (.ref ar), .val (.int (3 : Int32)), .val (.int (2 : Int32)), .val (.int v2)] [(.int (28 : Int32)), (.int v2)]))
            by_cases hc24 : v2 = (28 : Int32)
            · skip
              refine own_st (fun _ k => XS.icmpNo X0.here hx rfl (hb hby d1_28) rfl (teq hc24).2 k) ?_
              show own_Go _ _ _ _ (s₁.setTop (mkF m 31 #[.val (.ref ar), .val (.ref ar), .val (.int (3 : Int32)), .val (.int (2 : Int32)), .val (.int v2)] []))
              refine own_st (fun _ k => XS.iconst X0.here hx rfl (hb hby d1_31) k) ?_
              show own_Go _ _ _ _ (s₁.setTop (mkF m 32 #[.val (.ref ar), .val (.ref ar), .val (.int (3 : Int32)), .val (.int (2 : Int32)), .val (.int v2)] [(.int (0 : Int32))]))
              obtain ⟨fs, hr, hrun, hended, hW, hsame⟩ := X0.leave (v := some (.int (0 : Int32))) (fun h => by rw [Bd.returns] at h; cases h)
              refine own_out (retN X0 hx (t := .boolean) Bd.returns (by simp) (hb hby d1_32) hr) ⟨hrun, hended, _, _, rfl, ?_, ⟨_, rfl⟩, hW, hsame.mono (by decide) (by decide)⟩
              show Q1_3 Z ar kk v0 v1 v2 h0 n0 _ s₁.heap _
              have hv : own_ca3 v0 v1 v2 = (0 : Int32) := by
                unfold own_ca3
                rw [if_neg hc17, if_neg hc18, if_neg hc20, if_neg hc21, if_neg hc23, if_pos hc24]
              exact ⟨by rw [hv], N0, e0⟩
            · skip
              refine own_st (fun _ k => XS.icmpYes X0.here hx rfl (pc0 := 28) (pc' := 33) rfl (hb hby d1_28) rfl (feq hc24).2 (by decide) (by decide) k) ?_
              show own_Go _ _ _ _ (s₁.setTop (mkF m 33 #[.val (.ref ar), .val (.ref ar), .val (.int (3 : Int32)), .val (.int (2 : Int32)), .val (.int v2)] []))
              refine own_st (fun _ k => XS.iinc X0.here hx rfl (hb hby d1_33) rfl (l' := #[.val (.ref ar), .val (.ref ar), .val (.int (3 : Int32)), .val (.int (3 : Int32)), .val (.int v2)]) rfl k) ?_
              show own_Go _ _ _ _ (s₁.setTop (mkF m 36 #[.val (.ref ar), .val (.ref ar), .val (.int (3 : Int32)), .val (.int (3 : Int32)), .val (.int v2)] []))
              refine own_st (fun _ k => XS.goto X0.here hx rfl (pc0 := 36) (pc' := 7) rfl (hb hby d1_36) (by decide) (by decide) k) ?_
              show own_Go _ _ _ _ (s₁.setTop (mkF m 7 #[.val (.ref ar), .val (.ref ar), .val (.int (3 : Int32)), .val (.int (3 : Int32)), .val (.int v2)] []))
              refine own_st (fun _ k => XS.iloadN X0.here hx rfl (hb hby d1_7) rfl k) ?_
              show own_Go _ _ _ _ (s₁.setTop (mkF m 8 #[.val (.ref ar), .val (.ref ar), .val (.int (3 : Int32)), .val (.int (3 : Int32)), .val (.int v2)] [(.int (3 : Int32))]))
              refine own_st (fun _ k => XS.iloadN X0.here hx rfl (hb hby d1_8) rfl k) ?_
              show own_Go _ _ _ _ (s₁.setTop (mkF m 9 #[.val (.ref ar), .val (.ref ar), .val (.int (3 : Int32)), .val (.int (3 : Int32)), .val (.int v2)] [(.int (3 : Int32)), (.int (3 : Int32))]))
              refine own_st (fun _ k => XS.icmpYes X0.here hx rfl (pc0 := 9) (pc' := 39) rfl (hb hby d1_9) rfl (flt (by decide : ¬ ((3 : Int32) < (3 : Int32)))).2.1 (by decide) (by decide) k) ?_
              show own_Go _ _ _ _ (s₁.setTop (mkF m 39 #[.val (.ref ar), .val (.ref ar), .val (.int (3 : Int32)), .val (.int (3 : Int32)), .val (.int v2)] []))
              refine own_st (fun _ k => XS.iconst X0.here hx rfl (hb hby d1_39) k) ?_
              show own_Go _ _ _ _ (s₁.setTop (mkF m 40 #[.val (.ref ar), .val (.ref ar), .val (.int (3 : Int32)), .val (.int (3 : Int32)), .val (.int v2)] [(.int (1 : Int32))]))
              obtain ⟨fs, hr, hrun, hended, hW, hsame⟩ := X0.leave (v := some (.int (1 : Int32))) (fun h => by rw [Bd.returns] at h; cases h)
              refine own_out (retN X0 hx (t := .boolean) Bd.returns (by simp) (hb hby d1_40) hr) ⟨hrun, hended, _, _, rfl, ?_, ⟨_, rfl⟩, hW, hsame.mono (by decide) (by decide)⟩
              show Q1_3 Z ar kk v0 v1 v2 h0 n0 _ s₁.heap _
              have hv : own_ca3 v0 v1 v2 = (1 : Int32) := by
                unfold own_ca3
                rw [if_neg hc17, if_neg hc18, if_neg hc20, if_neg hc21, if_neg hc23, if_neg hc24]
              exact ⟨by rw [hv], N0, e0⟩
def own_ca4 (v0 : Int32) (v1 : Int32) (v2 : Int32) (v3 : Int32) : Int32 := (if v0 = (11 : Int32) then (0 : Int32) else (if v0 = (28 : Int32) then (0 : Int32) else (if v1 = (11 : Int32) then (0 : Int32) else (if v1 = (28 : Int32) then (0 : Int32) else (if v2 = (11 : Int32) then (0 : Int32) else (if v2 = (28 : Int32) then (0 : Int32) else (if v3 = (11 : Int32) then (0 : Int32) else (if v3 = (28 : Int32) then (0 : Int32) else (1 : Int32)))))))))
def Q1_4 (Z : State) (ar : Addr) (kk : ClassId) (v0 : Int32) (v1 : Int32) (v2 : Int32) (v3 : Int32) (h0 : Heap) (n0 : Nat) (v : Option Value) (h : Heap) (L : List Loc) : Prop := v = some (.int (own_ca4 v0 v1 v2 v3)) ∧ Fr n0 L ∧ h = h0
theorem ef_1_4 (m : MethodId) (x0 : Addr) : entryFrame m #[(.ref x0)] 5 = mkF m 0 #[.val (.ref x0), .unset, .unset, .unset, .unset] [] := by first | (simp [entryFrame, mkF, argsToLocals, Value.category]; done) | rfl
set_option maxRecDepth 65536 in
set_option maxHeartbeats 40000000 in
theorem rm1_4 (l : Launch) (Z : State) (a0 : Array Value) (hw : ∀ d ∈ tables_1, d.before a0 Z = true) (ws : List Jvm.Cond) (ar : Addr) (kk : ClassId) (v0 : Int32) (v1 : Int32) (v2 : Int32) (v3 : Int32) (h0 : Heap) (n0 : Nat) (Z0 : n0 ≤ h0.size) (V_ar : Arv Z h0 ar kk .byte (4 : Int32) [.int v0, .int v1, .int v2, .int v3] (.int (0 : Int32))) :
    MetFree l (⟨"quillvax/mllp/Mllp", "carries", "([B)Z"⟩ : MethodName) (head1 (Jvm.Cond.code (⟨"quillvax/mllp/Mllp", "carries", "([B)Z"⟩ : MethodName) prog_7_method_2_code 5 (some .boolean) :: ws) ({ frames := 0, cells := 0, slots := 0, locals := 0 } : Room)) (fun a U => a = #[(.ref ar)] ∧ Z.Warmed39 U.vm ∧ U.heap = h0) (fun _ _ _ _ _ => True) (fun _ U o U' => ∃ v L, o = .returned v ∧ Q1_4 Z ar kk v0 v1 v2 v3 h0 n0 v U'.heap L ∧ FrameEnd U o U' L ({ frames := 0, cells := 0, slots := 0, locals := 0 } : Room).cells ({ frames := 0, cells := 0, slots := 0, locals := 0 } : Room).slots) := by
  refine MetFree.of_bodySF (plainFor_of_name own_pn1) hisR ?_
  intro p e s m args below meth c s₁ Bd hml0 hP hK
  obtain ⟨rfl, hZ, hh⟩ := hP
  have hx := Bd.exec
  have hby := Bd.bytes
  have hml : c.maxLocals = 5 := hml0
  have hown : s.vm.findClass "quillvax/mllp/Mllp" = some m.cls := findClass_of_methodNamed Bd.named
  have hnm := (name_of_methodNamed Bd.named Bd.method).1
  have X0 : Stand p l e ({ frames := 0, cells := 0, slots := 0, locals := 0 } : Room) s m #[(.ref ar)] below meth c s₁ [] 0 0 := Stand.of_body Bd
  have e0 : s₁.heap = h0 := by rw [← hh, Bd.state]; rfl
  have N0 := Fr.nil n0
  refine own_in ?_
  refine own_st (fun _ k => castTop (ef_1_4 m ar) k) ?_
  have K0 : Keep h0 h0 [] := Keep.refl h0 []
  show own_Go _ _ _ _ (s₁.setTop (mkF m 0 #[.val (.ref ar), .unset, .unset, .unset, .unset] []))
  refine own_st (fun _ k => XS.aloadN X0.here hx rfl (hb hby d1_0) rfl rfl k) ?_
  show own_Go _ _ _ _ (s₁.setTop (mkF m 1 #[.val (.ref ar), .unset, .unset, .unset, .unset] [(.ref ar)]))
  refine own_st (fun _ k => XS.astoreN X0.here hx rfl (hb hby d1_1) rfl rfl (l' := #[.val (.ref ar), .val (.ref ar), .unset, .unset, .unset]) rfl k) ?_
  show own_Go _ _ _ _ (s₁.setTop (mkF m 2 #[.val (.ref ar), .val (.ref ar), .unset, .unset, .unset] []))
  refine own_st (fun _ k => XS.aloadN X0.here hx rfl (hb hby d1_2) rfl rfl k) ?_
  show own_Go _ _ _ _ (s₁.setTop (mkF m 3 #[.val (.ref ar), .val (.ref ar), .unset, .unset, .unset] [(.ref ar)]))
  obtain ⟨cl25, Ar25, -, Sz25, Nn25, -, -⟩ := id V_ar
  refine own_st (X0.arraylength hx (by rw [e0]; exact Ar25.1) (State.isArrayOf_alike hZ.alike Ar25.2.1) (g := (mkF m 3 #[.val (.ref ar), .val (.ref ar), .unset, .unset, .unset] [(.ref ar)])) rfl rfl (hb hby d1_3)) ?_
  rw [len_of Sz25 Nn25]
  show own_Go _ _ _ _ (s₁.setTop (mkF m 4 #[.val (.ref ar), .val (.ref ar), .unset, .unset, .unset] [(.int (4 : Int32))]))
  refine own_st (fun _ k => XS.istoreN X0.here hx rfl (hb hby d1_4) rfl (l' := #[.val (.ref ar), .val (.ref ar), .val (.int (4 : Int32)), .unset, .unset]) rfl k) ?_
  show own_Go _ _ _ _ (s₁.setTop (mkF m 5 #[.val (.ref ar), .val (.ref ar), .val (.int (4 : Int32)), .unset, .unset] []))
  refine own_st (fun _ k => XS.iconst X0.here hx rfl (hb hby d1_5) k) ?_
  show own_Go _ _ _ _ (s₁.setTop (mkF m 6 #[.val (.ref ar), .val (.ref ar), .val (.int (4 : Int32)), .unset, .unset] [(.int (0 : Int32))]))
  refine own_st (fun _ k => XS.istoreN X0.here hx rfl (hb hby d1_6) rfl (l' := #[.val (.ref ar), .val (.ref ar), .val (.int (4 : Int32)), .val (.int (0 : Int32)), .unset]) rfl k) ?_
  show own_Go _ _ _ _ (s₁.setTop (mkF m 7 #[.val (.ref ar), .val (.ref ar), .val (.int (4 : Int32)), .val (.int (0 : Int32)), .unset] []))
  refine own_st (fun _ k => XS.iloadN X0.here hx rfl (hb hby d1_7) rfl k) ?_
  show own_Go _ _ _ _ (s₁.setTop (mkF m 8 #[.val (.ref ar), .val (.ref ar), .val (.int (4 : Int32)), .val (.int (0 : Int32)), .unset] [(.int (0 : Int32))]))
  refine own_st (fun _ k => XS.iloadN X0.here hx rfl (hb hby d1_8) rfl k) ?_
  show own_Go _ _ _ _ (s₁.setTop (mkF m 9 #[.val (.ref ar), .val (.ref ar), .val (.int (4 : Int32)), .val (.int (0 : Int32)), .unset] [(.int (4 : Int32)), (.int (0 : Int32))]))
  refine own_st (fun _ k => XS.icmpNo X0.here hx rfl (hb hby d1_9) rfl (tlt (by decide : ((0 : Int32) < (4 : Int32)))).2.1 k) ?_
  show own_Go _ _ _ _ (s₁.setTop (mkF m 12 #[.val (.ref ar), .val (.ref ar), .val (.int (4 : Int32)), .val (.int (0 : Int32)), .unset] []))
  refine own_st (fun _ k => XS.aloadN X0.here hx rfl (hb hby d1_12) rfl rfl k) ?_
  show own_Go _ _ _ _ (s₁.setTop (mkF m 13 #[.val (.ref ar), .val (.ref ar), .val (.int (4 : Int32)), .val (.int (0 : Int32)), .unset] [(.ref ar)]))
  refine own_st (fun _ k => XS.iloadN X0.here hx rfl (hb hby d1_13) rfl k) ?_
  show own_Go _ _ _ _ (s₁.setTop (mkF m 14 #[.val (.ref ar), .val (.ref ar), .val (.int (4 : Int32)), .val (.int (0 : Int32)), .unset] [(.int (0 : Int32)), (.ref ar)]))
  obtain ⟨cl26, Ar26, -, Sz26, Nn26, Hs26, -⟩ := id V_ar
  have hin26 : ¬ ((0 : Int32) < 0 ∨ cl26.slots.size ≤ ((0 : Int32)).toNatClampNeg) := inb_of Sz26 ⟨(by decide : ¬ ((0 : Int32) < (0 : Int32))), (by decide : (0 : Int32) < (4 : Int32))⟩
  have hat26 : cl26.slots[((0 : Int32)).toNatClampNeg]? = some (.int v0) := Hs26.at hin26 rfl
  refine own_st (X0.baloadBytes hx (j := (0 : Int32)) (v := (.int v0)) (by rw [e0]; exact Ar26.1) (State.isArrayOf_alike hZ.alike Ar26.2.1) Ar26.2.2 hin26 hat26 (g := (mkF m 14 #[.val (.ref ar), .val (.ref ar), .val (.int (4 : Int32)), .val (.int (0 : Int32)), .unset] [(.int (0 : Int32)), (.ref ar)])) rfl rfl (hb hby d1_14)) ?_
  show own_Go _ _ _ _ (s₁.setTop (mkF m 15 #[.val (.ref ar), .val (.ref ar), .val (.int (4 : Int32)), .val (.int (0 : Int32)), .unset] [(.int v0)]))
  refine own_st (fun _ k => XS.istore X0.here hx rfl (hb hby d1_15) rfl (l' := #[.val (.ref ar), .val (.ref ar), .val (.int (4 : Int32)), .val (.int (0 : Int32)), .val (.int v0)]) rfl k) ?_
  show own_Go _ _ _ _ (s₁.setTop (mkF m 17 #[.val (.ref ar), .val (.ref ar), .val (.int (4 : Int32)), .val (.int (0 : Int32)), .val (.int v0)] []))
  refine own_st (fun _ k => XS.iload X0.here hx rfl (hb hby d1_17) rfl k) ?_
  show own_Go _ _ _ _ (s₁.setTop (mkF m 19 #[.val (.ref ar), .val (.ref ar), .val (.int (4 : Int32)), .val (.int (0 : Int32)), .val (.int v0)] [(.int v0)]))
  refine own_st (fun _ k => XS.bipush X0.here hx rfl (hb hby d1_19) k) ?_
  show own_Go _ _ _ _ (s₁.setTop (mkF m 21 #[.val (.ref ar), .val (.ref ar), .val (.int (4 : Int32)), .val (.int (0 : Int32)), .val (.int v0)] [(.int (11 : Int32)), (.int v0)]))
  by_cases hc27 : v0 = (11 : Int32)
  · skip
    refine own_st (fun _ k => XS.icmpYes X0.here hx rfl (pc0 := 21) (pc' := 31) rfl (hb hby d1_21) rfl (teq hc27).1 (by decide) (by decide) k) ?_
    show own_Go _ _ _ _ (s₁.setTop (mkF m 31 #[.val (.ref ar), .val (.ref ar), .val (.int (4 : Int32)), .val (.int (0 : Int32)), .val (.int v0)] []))
    refine own_st (fun _ k => XS.iconst X0.here hx rfl (hb hby d1_31) k) ?_
    show own_Go _ _ _ _ (s₁.setTop (mkF m 32 #[.val (.ref ar), .val (.ref ar), .val (.int (4 : Int32)), .val (.int (0 : Int32)), .val (.int v0)] [(.int (0 : Int32))]))
    obtain ⟨fs, hr, hrun, hended, hW, hsame⟩ := X0.leave (v := some (.int (0 : Int32))) (fun h => by rw [Bd.returns] at h; cases h)
    refine own_out (retN X0 hx (t := .boolean) Bd.returns (by simp) (hb hby d1_32) hr) ⟨hrun, hended, _, _, rfl, ?_, ⟨_, rfl⟩, hW, hsame.mono (by decide) (by decide)⟩
    show Q1_4 Z ar kk v0 v1 v2 v3 h0 n0 _ s₁.heap _
    have hv : own_ca4 v0 v1 v2 v3 = (0 : Int32) := by
      unfold own_ca4
      rw [if_pos hc27]
    exact ⟨by rw [hv], N0, e0⟩
  · skip
    refine own_st (fun _ k => XS.icmpNo X0.here hx rfl (hb hby d1_21) rfl (feq hc27).1 k) ?_
    show own_Go _ _ _ _ (s₁.setTop (mkF m 24 #[.val (.ref ar), .val (.ref ar), .val (.int (4 : Int32)), .val (.int (0 : Int32)), .val (.int v0)] []))
    refine own_st (fun _ k => XS.iload X0.here hx rfl (hb hby d1_24) rfl k) ?_
    show own_Go _ _ _ _ (s₁.setTop (mkF m 26 #[.val (.ref ar), .val (.ref ar), .val (.int (4 : Int32)), .val (.int (0 : Int32)), .val (.int v0)] [(.int v0)]))
    refine own_st (fun _ k => XS.bipush X0.here hx rfl (hb hby d1_26) k) ?_
    show own_Go _ _ _ _ (s₁.setTop (mkF m 28 #[.val (.ref ar), .val (.ref ar), .val (.int (4 : Int32)), .val (.int (0 : Int32)), .val (.int v0)] [(.int (28 : Int32)), (.int v0)]))
    by_cases hc28 : v0 = (28 : Int32)
    · skip
      refine own_st (fun _ k => XS.icmpNo X0.here hx rfl (hb hby d1_28) rfl (teq hc28).2 k) ?_
      show own_Go _ _ _ _ (s₁.setTop (mkF m 31 #[.val (.ref ar), .val (.ref ar), .val (.int (4 : Int32)), .val (.int (0 : Int32)), .val (.int v0)] []))
      refine own_st (fun _ k => XS.iconst X0.here hx rfl (hb hby d1_31) k) ?_
      show own_Go _ _ _ _ (s₁.setTop (mkF m 32 #[.val (.ref ar), .val (.ref ar), .val (.int (4 : Int32)), .val (.int (0 : Int32)), .val (.int v0)] [(.int (0 : Int32))]))
      obtain ⟨fs, hr, hrun, hended, hW, hsame⟩ := X0.leave (v := some (.int (0 : Int32))) (fun h => by rw [Bd.returns] at h; cases h)
      refine own_out (retN X0 hx (t := .boolean) Bd.returns (by simp) (hb hby d1_32) hr) ⟨hrun, hended, _, _, rfl, ?_, ⟨_, rfl⟩, hW, hsame.mono (by decide) (by decide)⟩
      show Q1_4 Z ar kk v0 v1 v2 v3 h0 n0 _ s₁.heap _
      have hv : own_ca4 v0 v1 v2 v3 = (0 : Int32) := by
        unfold own_ca4
        rw [if_neg hc27, if_pos hc28]
      exact ⟨by rw [hv], N0, e0⟩
    · skip
      refine own_st (fun _ k => XS.icmpYes X0.here hx rfl (pc0 := 28) (pc' := 33) rfl (hb hby d1_28) rfl (feq hc28).2 (by decide) (by decide) k) ?_
      show own_Go _ _ _ _ (s₁.setTop (mkF m 33 #[.val (.ref ar), .val (.ref ar), .val (.int (4 : Int32)), .val (.int (0 : Int32)), .val (.int v0)] []))
      refine own_st (fun _ k => XS.iinc X0.here hx rfl (hb hby d1_33) rfl (l' := #[.val (.ref ar), .val (.ref ar), .val (.int (4 : Int32)), .val (.int (1 : Int32)), .val (.int v0)]) rfl k) ?_
      show own_Go _ _ _ _ (s₁.setTop (mkF m 36 #[.val (.ref ar), .val (.ref ar), .val (.int (4 : Int32)), .val (.int (1 : Int32)), .val (.int v0)] []))
      refine own_st (fun _ k => XS.goto X0.here hx rfl (pc0 := 36) (pc' := 7) rfl (hb hby d1_36) (by decide) (by decide) k) ?_
      show own_Go _ _ _ _ (s₁.setTop (mkF m 7 #[.val (.ref ar), .val (.ref ar), .val (.int (4 : Int32)), .val (.int (1 : Int32)), .val (.int v0)] []))
      refine own_st (fun _ k => XS.iloadN X0.here hx rfl (hb hby d1_7) rfl k) ?_
      show own_Go _ _ _ _ (s₁.setTop (mkF m 8 #[.val (.ref ar), .val (.ref ar), .val (.int (4 : Int32)), .val (.int (1 : Int32)), .val (.int v0)] [(.int (1 : Int32))]))
      refine own_st (fun _ k => XS.iloadN X0.here hx rfl (hb hby d1_8) rfl k) ?_
      show own_Go _ _ _ _ (s₁.setTop (mkF m 9 #[.val (.ref ar), .val (.ref ar), .val (.int (4 : Int32)), .val (.int (1 : Int32)), .val (.int v0)] [(.int (4 : Int32)), (.int (1 : Int32))]))
      refine own_st (fun _ k => XS.icmpNo X0.here hx rfl (hb hby d1_9) rfl (tlt (by decide : ((1 : Int32) < (4 : Int32)))).2.1 k) ?_
      show own_Go _ _ _ _ (s₁.setTop (mkF m 12 #[.val (.ref ar), .val (.ref ar), .val (.int (4 : Int32)), .val (.int (1 : Int32)), .val (.int v0)] []))
      refine own_st (fun _ k => XS.aloadN X0.here hx rfl (hb hby d1_12) rfl rfl k) ?_
      show own_Go _ _ _ _ (s₁.setTop (mkF m 13 #[.val (.ref ar), .val (.ref ar), .val (.int (4 : Int32)), .val (.int (1 : Int32)), .val (.int v0)] [(.ref ar)]))
      refine own_st (fun _ k => XS.iloadN X0.here hx rfl (hb hby d1_13) rfl k) ?_
      show own_Go _ _ _ _ (s₁.setTop (mkF m 14 #[.val (.ref ar), .val (.ref ar), .val (.int (4 : Int32)), .val (.int (1 : Int32)), .val (.int v0)] [(.int (1 : Int32)), (.ref ar)]))
      obtain ⟨cl29, Ar29, -, Sz29, Nn29, Hs29, -⟩ := id V_ar
      have hin29 : ¬ ((1 : Int32) < 0 ∨ cl29.slots.size ≤ ((1 : Int32)).toNatClampNeg) := inb_of Sz29 ⟨(by decide : ¬ ((1 : Int32) < (0 : Int32))), (by decide : (1 : Int32) < (4 : Int32))⟩
      have hat29 : cl29.slots[((1 : Int32)).toNatClampNeg]? = some (.int v1) := Hs29.at hin29 rfl
      refine own_st (X0.baloadBytes hx (j := (1 : Int32)) (v := (.int v1)) (by rw [e0]; exact Ar29.1) (State.isArrayOf_alike hZ.alike Ar29.2.1) Ar29.2.2 hin29 hat29 (g := (mkF m 14 #[.val (.ref ar), .val (.ref ar), .val (.int (4 : Int32)), .val (.int (1 : Int32)), .val (.int v0)] [(.int (1 : Int32)), (.ref ar)])) rfl rfl (hb hby d1_14)) ?_
      show own_Go _ _ _ _ (s₁.setTop (mkF m 15 #[.val (.ref ar), .val (.ref ar), .val (.int (4 : Int32)), .val (.int (1 : Int32)), .val (.int v0)] [(.int v1)]))
      refine own_st (fun _ k => XS.istore X0.here hx rfl (hb hby d1_15) rfl (l' := #[.val (.ref ar), .val (.ref ar), .val (.int (4 : Int32)), .val (.int (1 : Int32)), .val (.int v1)]) rfl k) ?_
      show own_Go _ _ _ _ (s₁.setTop (mkF m 17 #[.val (.ref ar), .val (.ref ar), .val (.int (4 : Int32)), .val (.int (1 : Int32)), .val (.int v1)] []))
      refine own_st (fun _ k => XS.iload X0.here hx rfl (hb hby d1_17) rfl k) ?_
      show own_Go _ _ _ _ (s₁.setTop (mkF m 19 #[.val (.ref ar), .val (.ref ar), .val (.int (4 : Int32)), .val (.int (1 : Int32)), .val (.int v1)] [(.int v1)]))
      refine own_st (fun _ k => XS.bipush X0.here hx rfl (hb hby d1_19) k) ?_
      show own_Go _ _ _ _ (s₁.setTop (mkF m 21 #[.val (.ref ar), .val (.ref ar), .val (.int (4 : Int32)), .val (.int (1 : Int32)), .val (.int v1)] [(.int (11 : Int32)), (.int v1)]))
      by_cases hc30 : v1 = (11 : Int32)
      · skip
        refine own_st (fun _ k => XS.icmpYes X0.here hx rfl (pc0 := 21) (pc' := 31) rfl (hb hby d1_21) rfl (teq hc30).1 (by decide) (by decide) k) ?_
        show own_Go _ _ _ _ (s₁.setTop (mkF m 31 #[.val (.ref ar), .val (.ref ar), .val (.int (4 : Int32)), .val (.int (1 : Int32)), .val (.int v1)] []))
        refine own_st (fun _ k => XS.iconst X0.here hx rfl (hb hby d1_31) k) ?_
        show own_Go _ _ _ _ (s₁.setTop (mkF m 32 #[.val (.ref ar), .val (.ref ar), .val (.int (4 : Int32)), .val (.int (1 : Int32)), .val (.int v1)] [(.int (0 : Int32))]))
        obtain ⟨fs, hr, hrun, hended, hW, hsame⟩ := X0.leave (v := some (.int (0 : Int32))) (fun h => by rw [Bd.returns] at h; cases h)
        refine own_out (retN X0 hx (t := .boolean) Bd.returns (by simp) (hb hby d1_32) hr) ⟨hrun, hended, _, _, rfl, ?_, ⟨_, rfl⟩, hW, hsame.mono (by decide) (by decide)⟩
        show Q1_4 Z ar kk v0 v1 v2 v3 h0 n0 _ s₁.heap _
        have hv : own_ca4 v0 v1 v2 v3 = (0 : Int32) := by
          unfold own_ca4
          rw [if_neg hc27, if_neg hc28, if_pos hc30]
        exact ⟨by rw [hv], N0, e0⟩
      · skip
        refine own_st (fun _ k => XS.icmpNo X0.here hx rfl (hb hby d1_21) rfl (feq hc30).1 k) ?_
        show own_Go _ _ _ _ (s₁.setTop (mkF m 24 #[.val (.ref ar), .val (.ref ar), .val (.int (4 : Int32)), .val (.int (1 : Int32)), .val (.int v1)] []))
        refine own_st (fun _ k => XS.iload X0.here hx rfl (hb hby d1_24) rfl k) ?_
        show own_Go _ _ _ _ (s₁.setTop (mkF m 26 #[.val (.ref ar), .val (.ref ar), .val (.int (4 : Int32)), .val (.int (1 : Int32)), .val (.int v1)] [(.int v1)]))
        refine own_st (fun _ k => XS.bipush X0.here hx rfl (hb hby d1_26) k) ?_
        show own_Go _ _ _ _ (s₁.setTop (mkF m 28 #[.val (.ref ar), .val (.ref ar), .val (.int (4 : Int32)), .val (.int (1 : Int32)), .val (.int v1)] [(.int (28 : Int32)), (.int v1)]))
        by_cases hc31 : v1 = (28 : Int32)
        · skip
          refine own_st (fun _ k => XS.icmpNo X0.here hx rfl (hb hby d1_28) rfl (teq hc31).2 k) ?_
          show own_Go _ _ _ _ (s₁.setTop (mkF m 31 #[.val (.ref ar), .val (.ref ar), .val (.int (4 : Int32)), .val (.int (1 : Int32)), .val (.int v1)] []))
          refine own_st (fun _ k => XS.iconst X0.here hx rfl (hb hby d1_31) k) ?_
          show own_Go _ _ _ _ (s₁.setTop (mkF m 32 #[.val (.ref ar), .val (.ref ar), .val (.int (4 : Int32)), .val (.int (1 : Int32)), .val (.int v1)] [(.int (0 : Int32))]))
          obtain ⟨fs, hr, hrun, hended, hW, hsame⟩ := X0.leave (v := some (.int (0 : Int32))) (fun h => by rw [Bd.returns] at h; cases h)
          refine own_out (retN X0 hx (t := .boolean) Bd.returns (by simp) (hb hby d1_32) hr) ⟨hrun, hended, _, _, rfl, ?_, ⟨_, rfl⟩, hW, hsame.mono (by decide) (by decide)⟩
          show Q1_4 Z ar kk v0 v1 v2 v3 h0 n0 _ s₁.heap _
          have hv : own_ca4 v0 v1 v2 v3 = (0 : Int32) := by
            unfold own_ca4
            rw [if_neg hc27, if_neg hc28, if_neg hc30, if_pos hc31]
          exact ⟨by rw [hv], N0, e0⟩
        · skip
          refine own_st (fun _ k => XS.icmpYes X0.here hx rfl (pc0 := 28) (pc' := 33) rfl (hb hby d1_28) rfl (feq hc31).2 (by decide) (by decide) k) ?_
          show own_Go _ _ _ _ (s₁.setTop (mkF m 33 #[.val (.ref ar), .val (.ref ar), .val (.int (4 : Int32)), .val (.int (1 : Int32)), .val (.int v1)] []))
          refine own_st (fun _ k => XS.iinc X0.here hx rfl (hb hby d1_33) rfl (l' := #[.val (.ref ar), .val (.ref ar), .val (.int (4 : Int32)), .val (.int (2 : Int32)), .val (.int v1)]) rfl k) ?_
          show own_Go _ _ _ _ (s₁.setTop (mkF m 36 #[.val (.ref ar), .val (.ref ar), .val (.int (4 : Int32)), .val (.int (2 : Int32)), .val (.int v1)] []))
          refine own_st (fun _ k => XS.goto X0.here hx rfl (pc0 := 36) (pc' := 7) rfl (hb hby d1_36) (by decide) (by decide) k) ?_
          show own_Go _ _ _ _ (s₁.setTop (mkF m 7 #[.val (.ref ar), .val (.ref ar), .val (.int (4 : Int32)), .val (.int (2 : Int32)), .val (.int v1)] []))
          refine own_st (fun _ k => XS.iloadN X0.here hx rfl (hb hby d1_7) rfl k) ?_
          show own_Go _ _ _ _ (s₁.setTop (mkF m 8 #[.val (.ref ar), .val (.ref ar), .val (.int (4 : Int32)), .val (.int (2 : Int32)), .val (.int v1)] [(.int (2 : Int32))]))
          refine own_st (fun _ k => XS.iloadN X0.here hx rfl (hb hby d1_8) rfl k) ?_
          show own_Go _ _ _ _ (s₁.setTop (mkF m 9 #[.val (.ref ar), .val (.ref ar), .val (.int (4 : Int32)), .val (.int (2 : Int32)), .val (.int v1)] [(.int (4 : Int32)), (.int (2 : Int32))]))
          refine own_st (fun _ k => XS.icmpNo X0.here hx rfl (hb hby d1_9) rfl (tlt (by decide : ((2 : Int32) < (4 : Int32)))).2.1 k) ?_
          show own_Go _ _ _ _ (s₁.setTop (mkF m 12 #[.val (.ref ar), .val (.ref ar), .val (.int (4 : Int32)), .val (.int (2 : Int32)), .val (.int v1)] []))
          refine own_st (fun _ k => XS.aloadN X0.here hx rfl (hb hby d1_12) rfl rfl k) ?_
          show own_Go _ _ _ _ (s₁.setTop (mkF m 13 #[.val (.ref ar), .val (.ref ar), .val (.int (4 : Int32)), .val (.int (2 : Int32)), .val (.int v1)] [(.ref ar)]))
          refine own_st (fun _ k => XS.iloadN X0.here hx rfl (hb hby d1_13) rfl k) ?_
          show own_Go _ _ _ _ (s₁.setTop (mkF m 14 #[.val (.ref ar), .val (.ref ar), .val (.int (4 : Int32)), .val (.int (2 : Int32)), .val (.int v1)] [(.int (2 : Int32)), (.ref ar)]))
          obtain ⟨cl32, Ar32, -, Sz32, Nn32, Hs32, -⟩ := id V_ar
          have hin32 : ¬ ((2 : Int32) < 0 ∨ cl32.slots.size ≤ ((2 : Int32)).toNatClampNeg) := inb_of Sz32 ⟨(by decide : ¬ ((2 : Int32) < (0 : Int32))), (by decide : (2 : Int32) < (4 : Int32))⟩
          have hat32 : cl32.slots[((2 : Int32)).toNatClampNeg]? = some (.int v2) := Hs32.at hin32 rfl
          refine own_st (X0.baloadBytes hx (j := (2 : Int32)) (v := (.int v2)) (by rw [e0]; exact Ar32.1) (State.isArrayOf_alike hZ.alike Ar32.2.1) Ar32.2.2 hin32 hat32 (g := (mkF m 14 #[.val (.ref ar), .val (.ref ar), .val (.int (4 : Int32)), .val (.int (2 : Int32)), .val (.int v1)] [(.int (2 : Int32)), (.ref ar)])) rfl rfl (hb hby d1_14)) ?_
          show own_Go _ _ _ _ (s₁.setTop (mkF m 15 #[.val (.ref ar), .val (.ref ar), .val (.int (4 : Int32)), .val (.int (2 : Int32)), .val (.int v1)] [(.int v2)]))
          refine own_st (fun _ k => XS.istore X0.here hx rfl (hb hby d1_15) rfl (l' := #[.val (.ref ar), .val (.ref ar), .val (.int (4 : Int32)), .val (.int (2 : Int32)), .val (.int v2)]) rfl k) ?_
          show own_Go _ _ _ _ (s₁.setTop (mkF m 17 #[.val (.ref ar), .val (.ref ar), .val (.int (4 : Int32)), .val (.int (2 : Int32)), .val (.int v2)] []))
          refine own_st (fun _ k => XS.iload X0.here hx rfl (hb hby d1_17) rfl k) ?_
          show own_Go _ _ _ _ (s₁.setTop (mkF m 19 #[.val (.ref ar), .val (.ref ar), .val (.int (4 : Int32)), .val (.int (2 : Int32)), .val (.int v2)] [(.int v2)]))
          refine own_st (fun _ k => XS.bipush X0.here hx rfl (hb hby d1_19) k) ?_
          show own_Go _ _ _ _ (s₁.setTop (mkF m 21 #[.val (.ref ar), .val (.ref ar), .val (.int (4 : Int32)), .val (.int (2 : Int32)), .val (.int v2)] [(.int (11 : Int32)), (.int v2)]))
          by_cases hc33 : v2 = (11 : Int32)
          · skip
            refine own_st (fun _ k => XS.icmpYes X0.here hx rfl (pc0 := 21) (pc' := 31) rfl (hb hby d1_21) rfl (teq hc33).1 (by decide) (by decide) k) ?_
            show own_Go _ _ _ _ (s₁.setTop (mkF m 31 #[.val (.ref ar), .val (.ref ar), .val (.int (4 : Int32)), .val (.int (2 : Int32)), .val (.int v2)] []))
            refine own_st (fun _ k => XS.iconst X0.here hx rfl (hb hby d1_31) k) ?_
            show own_Go _ _ _ _ (s₁.setTop (mkF m 32 #[.val (.ref ar), .val (.ref ar), .val (.int (4 : Int32)), .val (.int (2 : Int32)), .val (.int v2)] [(.int (0 : Int32))]))
            obtain ⟨fs, hr, hrun, hended, hW, hsame⟩ := X0.leave (v := some (.int (0 : Int32))) (fun h => by rw [Bd.returns] at h; cases h)
            refine own_out (retN X0 hx (t := .boolean) Bd.returns (by simp) (hb hby d1_32) hr) ⟨hrun, hended, _, _, rfl, ?_, ⟨_, rfl⟩, hW, hsame.mono (by decide) (by decide)⟩
            show Q1_4 Z ar kk v0 v1 v2 v3 h0 n0 _ s₁.heap _
            have hv : own_ca4 v0 v1 v2 v3 = (0 : Int32) := by
              unfold own_ca4
              rw [if_neg hc27, if_neg hc28, if_neg hc30, if_neg hc31, if_pos hc33]
            exact ⟨by rw [hv], N0, e0⟩
          · skip
            refine own_st (fun _ k => XS.icmpNo X0.here hx rfl (hb hby d1_21) rfl (feq hc33).1 k) ?_
            show own_Go _ _ _ _ (s₁.setTop (mkF m 24 #[.val (.ref ar), .val (.ref ar), .val (.int (4 : Int32)), .val (.int (2 : Int32)), .val (.int v2)] []))
            refine own_st (fun _ k => XS.iload X0.here hx rfl (hb hby d1_24) rfl k) ?_
            show own_Go _ _ _ _ (s₁.setTop (mkF m 26 #[.val (.ref ar), .val (.ref ar), .val (.int (4 : Int32)), .val (.int (2 : Int32)), .val (.int v2)] [(.int v2)]))
            refine own_st (fun _ k => XS.bipush X0.here hx rfl (hb hby d1_26) k) ?_
            show own_Go _ _ _ _ (s₁.setTop (mkF m 28 #[.val (.ref ar), .val (.ref ar), .val (.int (4 : Int32)), .val (.int (2 : Int32)), .val (.int v2)] [(.int (28 : Int32)), (.int v2)]))
            by_cases hc34 : v2 = (28 : Int32)
            · skip
              refine own_st (fun _ k => XS.icmpNo X0.here hx rfl (hb hby d1_28) rfl (teq hc34).2 k) ?_
              show own_Go _ _ _ _ (s₁.setTop (mkF m 31 #[.val (.ref ar), .val (.ref ar), .val (.int (4 : Int32)), .val (.int (2 : Int32)), .val (.int v2)] []))
              refine own_st (fun _ k => XS.iconst X0.here hx rfl (hb hby d1_31) k) ?_
              show own_Go _ _ _ _ (s₁.setTop (mkF m 32 #[.val (.ref ar), .val (.ref ar), .val (.int (4 : Int32)), .val (.int (2 : Int32)), .val (.int v2)] [(.int (0 : Int32))]))
              obtain ⟨fs, hr, hrun, hended, hW, hsame⟩ := X0.leave (v := some (.int (0 : Int32))) (fun h => by rw [Bd.returns] at h; cases h)
              refine own_out (retN X0 hx (t := .boolean) Bd.returns (by simp) (hb hby d1_32) hr) ⟨hrun, hended, _, _, rfl, ?_, ⟨_, rfl⟩, hW, hsame.mono (by decide) (by decide)⟩
              show Q1_4 Z ar kk v0 v1 v2 v3 h0 n0 _ s₁.heap _
              have hv : own_ca4 v0 v1 v2 v3 = (0 : Int32) := by
                unfold own_ca4
                rw [if_neg hc27, if_neg hc28, if_neg hc30, if_neg hc31, if_neg hc33, if_pos hc34]
              exact ⟨by rw [hv], N0, e0⟩
            · skip
              refine own_st (fun _ k => XS.icmpYes X0.here hx rfl (pc0 := 28) (pc' := 33) rfl (hb hby d1_28) rfl (feq hc34).2 (by decide) (by decide) k) ?_
              show own_Go _ _ _ _ (s₁.setTop (mkF m 33 #[.val (.ref ar), .val (.ref ar), .val (.int (4 : Int32)), .val (.int (2 : Int32)), .val (.int v2)] []))
              refine own_st (fun _ k => XS.iinc X0.here hx rfl (hb hby d1_33) rfl (l' := #[.val (.ref ar), .val (.ref ar), .val (.int (4 : Int32)), .val (.int (3 : Int32)), .val (.int v2)]) rfl k) ?_
              show own_Go _ _ _ _ (s₁.setTop (mkF m 36 #[.val (.ref ar), .val (.ref ar), .val (.int (4 : Int32)), .val (.int (3 : Int32)), .val (.int v2)] []))
              refine own_st (fun _ k => XS.goto X0.here hx rfl (pc0 := 36) (pc' := 7) rfl (hb hby d1_36) (by decide) (by decide) k) ?_
              show own_Go _ _ _ _ (s₁.setTop (mkF m 7 #[.val (.ref ar), .val (.ref ar), .val (.int (4 : Int32)), .val (.int (3 : Int32)), .val (.int v2)] []))
              refine own_st (fun _ k => XS.iloadN X0.here hx rfl (hb hby d1_7) rfl k) ?_
              show own_Go _ _ _ _ (s₁.setTop (mkF m 8 #[.val (.ref ar), .val (.ref ar), .val (.int (4 : Int32)), .val (.int (3 : Int32)), .val (.int v2)] [(.int (3 : Int32))]))
              refine own_st (fun _ k => XS.iloadN X0.here hx rfl (hb hby d1_8) rfl k) ?_
              show own_Go _ _ _ _ (s₁.setTop (mkF m 9 #[.val (.ref ar), .val (.ref ar), .val (.int (4 : Int32)), .val (.int (3 : Int32)), .val (.int v2)] [(.int (4 : Int32)), (.int (3 : Int32))]))
              refine own_st (fun _ k => XS.icmpNo X0.here hx rfl (hb hby d1_9) rfl (tlt (by decide : ((3 : Int32) < (4 : Int32)))).2.1 k) ?_
              show own_Go _ _ _ _ (s₁.setTop (mkF m 12 #[.val (.ref ar), .val (.ref ar), .val (.int (4 : Int32)), .val (.int (3 : Int32)), .val (.int v2)] []))
              refine own_st (fun _ k => XS.aloadN X0.here hx rfl (hb hby d1_12) rfl rfl k) ?_
              show own_Go _ _ _ _ (s₁.setTop (mkF m 13 #[.val (.ref ar), .val (.ref ar), .val (.int (4 : Int32)), .val (.int (3 : Int32)), .val (.int v2)] [(.ref ar)]))
              refine own_st (fun _ k => XS.iloadN X0.here hx rfl (hb hby d1_13) rfl k) ?_
              show own_Go _ _ _ _ (s₁.setTop (mkF m 14 #[.val (.ref ar), .val (.ref ar), .val (.int (4 : Int32)), .val (.int (3 : Int32)), .val (.int v2)] [(.int (3 : Int32)), (.ref ar)]))
              obtain ⟨cl35, Ar35, -, Sz35, Nn35, Hs35, -⟩ := id V_ar
              have hin35 : ¬ ((3 : Int32) < 0 ∨ cl35.slots.size ≤ ((3 : Int32)).toNatClampNeg) := inb_of Sz35 ⟨(by decide : ¬ ((3 : Int32) < (0 : Int32))), (by decide : (3 : Int32) < (4 : Int32))⟩
              have hat35 : cl35.slots[((3 : Int32)).toNatClampNeg]? = some (.int v3) := Hs35.at hin35 rfl
              refine own_st (X0.baloadBytes hx (j := (3 : Int32)) (v := (.int v3)) (by rw [e0]; exact Ar35.1) (State.isArrayOf_alike hZ.alike Ar35.2.1) Ar35.2.2 hin35 hat35 (g := (mkF m 14 #[.val (.ref ar), .val (.ref ar), .val (.int (4 : Int32)), .val (.int (3 : Int32)), .val (.int v2)] [(.int (3 : Int32)), (.ref ar)])) rfl rfl (hb hby d1_14)) ?_
              show own_Go _ _ _ _ (s₁.setTop (mkF m 15 #[.val (.ref ar), .val (.ref ar), .val (.int (4 : Int32)), .val (.int (3 : Int32)), .val (.int v2)] [(.int v3)]))
              refine own_st (fun _ k => XS.istore X0.here hx rfl (hb hby d1_15) rfl (l' := #[.val (.ref ar), .val (.ref ar), .val (.int (4 : Int32)), .val (.int (3 : Int32)), .val (.int v3)]) rfl k) ?_
              show own_Go _ _ _ _ (s₁.setTop (mkF m 17 #[.val (.ref ar), .val (.ref ar), .val (.int (4 : Int32)), .val (.int (3 : Int32)), .val (.int v3)] []))
              refine own_st (fun _ k => XS.iload X0.here hx rfl (hb hby d1_17) rfl k) ?_
              show own_Go _ _ _ _ (s₁.setTop (mkF m 19 #[.val (.ref ar), .val (.ref ar), .val (.int (4 : Int32)), .val (.int (3 : Int32)), .val (.int v3)] [(.int v3)]))
              refine own_st (fun _ k => XS.bipush X0.here hx rfl (hb hby d1_19) k) ?_
              show own_Go _ _ _ _ (s₁.setTop (mkF m 21 #[.val (.ref ar), .val (.ref ar), .val (.int (4 : Int32)), .val (.int (3 : Int32)), .val (.int v3)] [(.int (11 : Int32)), (.int v3)]))
              by_cases hc36 : v3 = (11 : Int32)
              · skip
                refine own_st (fun _ k => XS.icmpYes X0.here hx rfl (pc0 := 21) (pc' := 31) rfl (hb hby d1_21) rfl (teq hc36).1 (by decide) (by decide) k) ?_
                show own_Go _ _ _ _ (s₁.setTop (mkF m 31 #[.val (.ref ar), .val (.ref ar), .val (.int (4 : Int32)), .val (.int (3 : Int32)), .val (.int v3)] []))
                refine own_st (fun _ k => XS.iconst X0.here hx rfl (hb hby d1_31) k) ?_
                show own_Go _ _ _ _ (s₁.setTop (mkF m 32 #[.val (.ref ar), .val (.ref ar), .val (.int (4 : Int32)), .val (.int (3 : Int32)), .val (.int v3)] [(.int (0 : Int32))]))
                obtain ⟨fs, hr, hrun, hended, hW, hsame⟩ := X0.leave (v := some (.int (0 : Int32))) (fun h => by rw [Bd.returns] at h; cases h)
                refine own_out (retN X0 hx (t := .boolean) Bd.returns (by simp) (hb hby d1_32) hr) ⟨hrun, hended, _, _, rfl, ?_, ⟨_, rfl⟩, hW, hsame.mono (by decide) (by decide)⟩
                show Q1_4 Z ar kk v0 v1 v2 v3 h0 n0 _ s₁.heap _
                have hv : own_ca4 v0 v1 v2 v3 = (0 : Int32) := by
                  unfold own_ca4
                  rw [if_neg hc27, if_neg hc28, if_neg hc30, if_neg hc31, if_neg hc33, if_neg hc34, if_pos hc36]
                exact ⟨by rw [hv], N0, e0⟩
              · skip
                refine own_st (fun _ k => XS.icmpNo X0.here hx rfl (hb hby d1_21) rfl (feq hc36).1 k) ?_
                show own_Go _ _ _ _ (s₁.setTop (mkF m 24 #[.val (.ref ar), .val (.ref ar), .val (.int (4 : Int32)), .val (.int (3 : Int32)), .val (.int v3)] []))
                refine own_st (fun _ k => XS.iload X0.here hx rfl (hb hby d1_24) rfl k) ?_
                show own_Go _ _ _ _ (s₁.setTop (mkF m 26 #[.val (.ref ar), .val (.ref ar), .val (.int (4 : Int32)), .val (.int (3 : Int32)), .val (.int v3)] [(.int v3)]))
                refine own_st (fun _ k => XS.bipush X0.here hx rfl (hb hby d1_26) k) ?_
                show own_Go _ _ _ _ (s₁.setTop (mkF m 28 #[.val (.ref ar), .val (.ref ar), .val (.int (4 : Int32)), .val (.int (3 : Int32)), .val (.int v3)] [(.int (28 : Int32)), (.int v3)]))
                by_cases hc37 : v3 = (28 : Int32)
                · skip
                  refine own_st (fun _ k => XS.icmpNo X0.here hx rfl (hb hby d1_28) rfl (teq hc37).2 k) ?_
                  show own_Go _ _ _ _ (s₁.setTop (mkF m 31 #[.val (.ref ar), .val (.ref ar), .val (.int (4 : Int32)), .val (.int (3 : Int32)), .val (.int v3)] []))
                  refine own_st (fun _ k => XS.iconst X0.here hx rfl (hb hby d1_31) k) ?_
                  show own_Go _ _ _ _ (s₁.setTop (mkF m 32 #[.val (.ref ar), .val (.ref ar), .val (.int (4 : Int32)), .val (.int (3 : Int32)), .val (.int v3)] [(.int (0 : Int32))]))
                  obtain ⟨fs, hr, hrun, hended, hW, hsame⟩ := X0.leave (v := some (.int (0 : Int32))) (fun h => by rw [Bd.returns] at h; cases h)
                  refine own_out (retN X0 hx (t := .boolean) Bd.returns (by simp) (hb hby d1_32) hr) ⟨hrun, hended, _, _, rfl, ?_, ⟨_, rfl⟩, hW, hsame.mono (by decide) (by decide)⟩
                  show Q1_4 Z ar kk v0 v1 v2 v3 h0 n0 _ s₁.heap _
                  have hv : own_ca4 v0 v1 v2 v3 = (0 : Int32) := by
                    unfold own_ca4
                    rw [if_neg hc27, if_neg hc28, if_neg hc30, if_neg hc31, if_neg hc33, if_neg hc34, if_neg hc36, if_pos hc37]
                  exact ⟨by rw [hv], N0, e0⟩
                · skip
                  refine own_st (fun _ k => XS.icmpYes X0.here hx rfl (pc0 := 28) (pc' := 33) rfl (hb hby d1_28) rfl (feq hc37).2 (by decide) (by decide) k) ?_
                  show own_Go _ _ _ _ (s₁.setTop (mkF m 33 #[.val (.ref ar), .val (.ref ar), .val (.int (4 : Int32)), .val (.int (3 : Int32)), .val (.int v3)] []))
                  refine own_st (fun _ k => XS.iinc X0.here hx rfl (hb hby d1_33) rfl (l' := #[.val (.ref ar), .val (.ref ar), .val (.int (4 : Int32)), .val (.int (4 : Int32)), .val (.int v3)]) rfl k) ?_
                  show own_Go _ _ _ _ (s₁.setTop (mkF m 36 #[.val (.ref ar), .val (.ref ar), .val (.int (4 : Int32)), .val (.int (4 : Int32)), .val (.int v3)] []))
                  refine own_st (fun _ k => XS.goto X0.here hx rfl (pc0 := 36) (pc' := 7) rfl (hb hby d1_36) (by decide) (by decide) k) ?_
                  show own_Go _ _ _ _ (s₁.setTop (mkF m 7 #[.val (.ref ar), .val (.ref ar), .val (.int (4 : Int32)), .val (.int (4 : Int32)), .val (.int v3)] []))
                  refine own_st (fun _ k => XS.iloadN X0.here hx rfl (hb hby d1_7) rfl k) ?_
                  show own_Go _ _ _ _ (s₁.setTop (mkF m 8 #[.val (.ref ar), .val (.ref ar), .val (.int (4 : Int32)), .val (.int (4 : Int32)), .val (.int v3)] [(.int (4 : Int32))]))
                  refine own_st (fun _ k => XS.iloadN X0.here hx rfl (hb hby d1_8) rfl k) ?_
                  show own_Go _ _ _ _ (s₁.setTop (mkF m 9 #[.val (.ref ar), .val (.ref ar), .val (.int (4 : Int32)), .val (.int (4 : Int32)), .val (.int v3)] [(.int (4 : Int32)), (.int (4 : Int32))]))
                  refine own_st (fun _ k => XS.icmpYes X0.here hx rfl (pc0 := 9) (pc' := 39) rfl (hb hby d1_9) rfl (flt (by decide : ¬ ((4 : Int32) < (4 : Int32)))).2.1 (by decide) (by decide) k) ?_
                  show own_Go _ _ _ _ (s₁.setTop (mkF m 39 #[.val (.ref ar), .val (.ref ar), .val (.int (4 : Int32)), .val (.int (4 : Int32)), .val (.int v3)] []))
                  refine own_st (fun _ k => XS.iconst X0.here hx rfl (hb hby d1_39) k) ?_
                  show own_Go _ _ _ _ (s₁.setTop (mkF m 40 #[.val (.ref ar), .val (.ref ar), .val (.int (4 : Int32)), .val (.int (4 : Int32)), .val (.int v3)] [(.int (1 : Int32))]))
                  obtain ⟨fs, hr, hrun, hended, hW, hsame⟩ := X0.leave (v := some (.int (1 : Int32))) (fun h => by rw [Bd.returns] at h; cases h)
                  refine own_out (retN X0 hx (t := .boolean) Bd.returns (by simp) (hb hby d1_40) hr) ⟨hrun, hended, _, _, rfl, ?_, ⟨_, rfl⟩, hW, hsame.mono (by decide) (by decide)⟩
                  show Q1_4 Z ar kk v0 v1 v2 v3 h0 n0 _ s₁.heap _
                  have hv : own_ca4 v0 v1 v2 v3 = (1 : Int32) := by
                    unfold own_ca4
                    rw [if_neg hc27, if_neg hc28, if_neg hc30, if_neg hc31, if_neg hc33, if_neg hc34, if_neg hc36, if_neg hc37]
                  exact ⟨by rw [hv], N0, e0⟩
theorem own_cl_iff (u : Int32) : own_cl (u.toInt8.toInt32) = (0 : Int32) ↔ (u.toInt8.toInt32 = (11 : Int32) ∨ u.toInt8.toInt32 = (28 : Int32)) := by
  have r := c_i2b u
  generalize u.toInt8.toInt32 = v at *
  have m := c_mask v 255 8 (by decide) (by decide)
  unfold own_cl
  constructor
  · intro h
    split at h
    · rename_i q; left; simp only [← Int32.toInt_inj, Int32.reduceToInt] at *; omega
    · split at h
      · rename_i q; right; simp only [← Int32.toInt_inj, Int32.reduceToInt] at *; omega
      · exact absurd h (by decide)
  · intro h
    rcases h with rfl | rfl <;> decide
theorem own_no (u : Int32) (h : ¬ own_cl (u.toInt8.toInt32) = (0 : Int32)) : ¬ u.toInt8.toInt32 = (11 : Int32) ∧ ¬ u.toInt8.toInt32 = (28 : Int32) := not_or.mp fun q => h ((own_cl_iff u).mpr q)
theorem own_pd2 : parseMethodDescriptor "(IIIII)Z" = some ⟨[.int, .int, .int, .int, .int], some .boolean⟩ := by decide +kernel
def Q0 (Z : State) (u0 : Int32) (u1 : Int32) (u2 : Int32) (u3 : Int32) (u4 : Int32) (h0 : Heap) (n0 : Nat) (v : Option Value) (h : Heap) (L : List Loc) : Prop := v = some (.int 1) ∧ Fr n0 L
theorem ef_0 (m : MethodId) (x0 : Int32) (x1 : Int32) (x2 : Int32) (x3 : Int32) (x4 : Int32) : entryFrame m #[(.int x0), (.int x1), (.int x2), (.int x3), (.int x4)] maxLocals = mkF m 0 #[.val (.int x0), .val (.int x1), .val (.int x2), .val (.int x3), .val (.int x4), .unset, .unset, .unset, .unset, .unset, .unset, .unset] [] := by first | (simp [entryFrame, mkF, argsToLocals, Value.category, maxLocals]; done) | rfl
set_option maxRecDepth 65536 in
set_option maxHeartbeats 40000000 in
theorem rm0 (l : Launch) (Z : State) (a0 : Array Value) (hw : ∀ d ∈ tables_1, d.before a0 Z = true) (ws : List Jvm.Cond) (u0 : Int32) (u1 : Int32) (u2 : Int32) (u3 : Int32) (u4 : Int32) (h0 : Heap) (n0 : Nat) (Z0 : n0 ≤ h0.size)  :
    MetFree l x (head1 (Jvm.Cond.code x code maxLocals ret :: ws) room_1) (fun a U => a = #[(.int u0), (.int u1), (.int u2), (.int u3), (.int u4)] ∧ Z.Warmed39 U.vm ∧ U.heap = h0) (fun _ _ _ _ _ => True) (fun _ U o U' => ∃ v L, o = .returned v ∧ Q0 Z u0 u1 u2 u3 u4 h0 n0 v U'.heap L ∧ FrameEnd U o U' L 16 128) := by
  refine MetFree.of_bodySF (plainFor_of_name own_pn0) hisR ?_
  intro p e s m args below meth c s₁ Bd hml0 hP hK
  obtain ⟨rfl, hZ, hh⟩ := hP
  have hx := Bd.exec
  have hby := Bd.bytes
  have hml : c.maxLocals = 12 := hml0
  have hown : s.vm.findClass "quillvax/mllp/MllpCarriesPinLaw" = some m.cls := findClass_of_methodNamed Bd.named
  have hnm := (name_of_methodNamed Bd.named Bd.method).1
  have X0 : Stand p l e room_1 s m #[(.int u0), (.int u1), (.int u2), (.int u3), (.int u4)] below meth c s₁ [] 0 0 := Stand.of_body Bd
  have e0 : s₁.heap = h0 := by rw [← hh, Bd.state]; rfl
  have N0 := Fr.nil n0
  refine own_in ?_
  refine own_st (fun _ k => castTop (ef_0 m u0 u1 u2 u3 u4) k) ?_
  have K0 : Keep h0 h0 [] := Keep.refl h0 []
  show own_Go _ _ _ _ (s₁.setTop (mkF m 0 #[.val (.int u0), .val (.int u1), .val (.int u2), .val (.int u3), .val (.int u4), .unset, .unset, .unset, .unset, .unset, .unset, .unset] []))
  refine own_st (fun _ k => XS.iloadN X0.here hx rfl (hb hby at_0) rfl k) ?_
  show own_Go _ _ _ _ (s₁.setTop (mkF m 1 #[.val (.int u0), .val (.int u1), .val (.int u2), .val (.int u3), .val (.int u4), .unset, .unset, .unset, .unset, .unset, .unset, .unset] [(.int u0)]))
  refine own_st (fun _ k => X0.ldcInt hx hown (mvT hZ (hw _ (List.mem_of_getElem? (i := 0) rfl))) (g := (mkF m 1 #[.val (.int u0), .val (.int u1), .val (.int u2), .val (.int u3), .val (.int u4), .unset, .unset, .unset, .unset, .unset, .unset, .unset] [(.int u0)])) rfl (hb hby at_1) _ k) ?_
  show own_Go _ _ _ _ (s₁.setTop (mkF m 3 #[.val (.int u0), .val (.int u1), .val (.int u2), .val (.int u3), .val (.int u4), .unset, .unset, .unset, .unset, .unset, .unset, .unset] [(.int (2147483647 : Int32)), (.int u0)]))
  refine own_st (fun _ k => XS.iand X0.here hx rfl (hb hby at_3) rfl k) ?_
  show own_Go _ _ _ _ (s₁.setTop (mkF m 4 #[.val (.int u0), .val (.int u1), .val (.int u2), .val (.int u3), .val (.int u4), .unset, .unset, .unset, .unset, .unset, .unset, .unset] [(.int (u0 &&& (2147483647 : Int32)))]))
  refine own_st (fun _ k => XS.iconst X0.here hx rfl (hb hby at_4) k) ?_
  show own_Go _ _ _ _ (s₁.setTop (mkF m 5 #[.val (.int u0), .val (.int u1), .val (.int u2), .val (.int u3), .val (.int u4), .unset, .unset, .unset, .unset, .unset, .unset, .unset] [(.int (5 : Int32)), (.int (u0 &&& (2147483647 : Int32)))]))
  refine own_st (fun _ k => XS.irem X0.here hx rfl (hb hby at_5) rfl (by decide : ¬ ((5 : Int32) = (0 : Int32))) k) ?_
  show own_Go _ _ _ _ (s₁.setTop (mkF m 6 #[.val (.int u0), .val (.int u1), .val (.int u2), .val (.int u3), .val (.int u4), .unset, .unset, .unset, .unset, .unset, .unset, .unset] [(.int ((u0 &&& (2147483647 : Int32)) - ((u0 &&& (2147483647 : Int32)) / (5 : Int32)) * (5 : Int32)))]))
  refine own_st (fun _ k => XS.istore X0.here hx rfl (hb hby at_6) rfl (l' := #[.val (.int u0), .val (.int u1), .val (.int u2), .val (.int u3), .val (.int u4), .val (.int ((u0 &&& (2147483647 : Int32)) - ((u0 &&& (2147483647 : Int32)) / (5 : Int32)) * (5 : Int32))), .unset, .unset, .unset, .unset, .unset, .unset]) rfl k) ?_
  show own_Go _ _ _ _ (s₁.setTop (mkF m 8 #[.val (.int u0), .val (.int u1), .val (.int u2), .val (.int u3), .val (.int u4), .val (.int ((u0 &&& (2147483647 : Int32)) - ((u0 &&& (2147483647 : Int32)) / (5 : Int32)) * (5 : Int32))), .unset, .unset, .unset, .unset, .unset, .unset] []))
  rcases own_m5 u0 with hs38 | hs38 | hs38 | hs38 | hs38
  · skip
    rw [hs38]
    show own_Go _ _ _ _ (s₁.setTop (mkF m 8 #[.val (.int u0), .val (.int u1), .val (.int u2), .val (.int u3), .val (.int u4), .val (.int (0 : Int32)), .unset, .unset, .unset, .unset, .unset, .unset] []))
    refine own_st (fun _ k => XS.iloadN X0.here hx rfl (hb hby at_8) rfl k) ?_
    show own_Go _ _ _ _ (s₁.setTop (mkF m 9 #[.val (.int u0), .val (.int u1), .val (.int u2), .val (.int u3), .val (.int u4), .val (.int (0 : Int32)), .unset, .unset, .unset, .unset, .unset, .unset] [(.int u1)]))
    refine own_st (fun _ k => XS.i2b X0.here hx rfl (hb hby at_9) rfl k) ?_
    show own_Go _ _ _ _ (s₁.setTop (mkF m 10 #[.val (.int u0), .val (.int u1), .val (.int u2), .val (.int u3), .val (.int u4), .val (.int (0 : Int32)), .unset, .unset, .unset, .unset, .unset, .unset] [(.int (u1.toInt8.toInt32))]))
    refine own_st (fun _ k => XS.istore X0.here hx rfl (hb hby at_10) rfl (l' := #[.val (.int u0), .val (.int u1), .val (.int u2), .val (.int u3), .val (.int u4), .val (.int (0 : Int32)), .val (.int (u1.toInt8.toInt32)), .unset, .unset, .unset, .unset, .unset]) rfl k) ?_
    show own_Go _ _ _ _ (s₁.setTop (mkF m 12 #[.val (.int u0), .val (.int u1), .val (.int u2), .val (.int u3), .val (.int u4), .val (.int (0 : Int32)), .val (.int (u1.toInt8.toInt32)), .unset, .unset, .unset, .unset, .unset] []))
    refine own_st (fun _ k => XS.iloadN X0.here hx rfl (hb hby at_12) rfl k) ?_
    show own_Go _ _ _ _ (s₁.setTop (mkF m 13 #[.val (.int u0), .val (.int u1), .val (.int u2), .val (.int u3), .val (.int u4), .val (.int (0 : Int32)), .val (.int (u1.toInt8.toInt32)), .unset, .unset, .unset, .unset, .unset] [(.int u2)]))
    refine own_st (fun _ k => XS.i2b X0.here hx rfl (hb hby at_13) rfl k) ?_
    show own_Go _ _ _ _ (s₁.setTop (mkF m 14 #[.val (.int u0), .val (.int u1), .val (.int u2), .val (.int u3), .val (.int u4), .val (.int (0 : Int32)), .val (.int (u1.toInt8.toInt32)), .unset, .unset, .unset, .unset, .unset] [(.int (u2.toInt8.toInt32))]))
    refine own_st (fun _ k => XS.istore X0.here hx rfl (hb hby at_14) rfl (l' := #[.val (.int u0), .val (.int u1), .val (.int u2), .val (.int u3), .val (.int u4), .val (.int (0 : Int32)), .val (.int (u1.toInt8.toInt32)), .val (.int (u2.toInt8.toInt32)), .unset, .unset, .unset, .unset]) rfl k) ?_
    show own_Go _ _ _ _ (s₁.setTop (mkF m 16 #[.val (.int u0), .val (.int u1), .val (.int u2), .val (.int u3), .val (.int u4), .val (.int (0 : Int32)), .val (.int (u1.toInt8.toInt32)), .val (.int (u2.toInt8.toInt32)), .unset, .unset, .unset, .unset] []))
    refine own_st (fun _ k => XS.iloadN X0.here hx rfl (hb hby at_16) rfl k) ?_
    show own_Go _ _ _ _ (s₁.setTop (mkF m 17 #[.val (.int u0), .val (.int u1), .val (.int u2), .val (.int u3), .val (.int u4), .val (.int (0 : Int32)), .val (.int (u1.toInt8.toInt32)), .val (.int (u2.toInt8.toInt32)), .unset, .unset, .unset, .unset] [(.int u3)]))
    refine own_st (fun _ k => XS.i2b X0.here hx rfl (hb hby at_17) rfl k) ?_
    show own_Go _ _ _ _ (s₁.setTop (mkF m 18 #[.val (.int u0), .val (.int u1), .val (.int u2), .val (.int u3), .val (.int u4), .val (.int (0 : Int32)), .val (.int (u1.toInt8.toInt32)), .val (.int (u2.toInt8.toInt32)), .unset, .unset, .unset, .unset] [(.int (u3.toInt8.toInt32))]))
    refine own_st (fun _ k => XS.istore X0.here hx rfl (hb hby at_18) rfl (l' := #[.val (.int u0), .val (.int u1), .val (.int u2), .val (.int u3), .val (.int u4), .val (.int (0 : Int32)), .val (.int (u1.toInt8.toInt32)), .val (.int (u2.toInt8.toInt32)), .val (.int (u3.toInt8.toInt32)), .unset, .unset, .unset]) rfl k) ?_
    show own_Go _ _ _ _ (s₁.setTop (mkF m 20 #[.val (.int u0), .val (.int u1), .val (.int u2), .val (.int u3), .val (.int u4), .val (.int (0 : Int32)), .val (.int (u1.toInt8.toInt32)), .val (.int (u2.toInt8.toInt32)), .val (.int (u3.toInt8.toInt32)), .unset, .unset, .unset] []))
    refine own_st (fun _ k => XS.iload X0.here hx rfl (hb hby at_20) rfl k) ?_
    show own_Go _ _ _ _ (s₁.setTop (mkF m 22 #[.val (.int u0), .val (.int u1), .val (.int u2), .val (.int u3), .val (.int u4), .val (.int (0 : Int32)), .val (.int (u1.toInt8.toInt32)), .val (.int (u2.toInt8.toInt32)), .val (.int (u3.toInt8.toInt32)), .unset, .unset, .unset] [(.int u4)]))
    refine own_st (fun _ k => XS.i2b X0.here hx rfl (hb hby at_22) rfl k) ?_
    show own_Go _ _ _ _ (s₁.setTop (mkF m 23 #[.val (.int u0), .val (.int u1), .val (.int u2), .val (.int u3), .val (.int u4), .val (.int (0 : Int32)), .val (.int (u1.toInt8.toInt32)), .val (.int (u2.toInt8.toInt32)), .val (.int (u3.toInt8.toInt32)), .unset, .unset, .unset] [(.int (u4.toInt8.toInt32))]))
    refine own_st (fun _ k => XS.istore X0.here hx rfl (hb hby at_23) rfl (l' := #[.val (.int u0), .val (.int u1), .val (.int u2), .val (.int u3), .val (.int u4), .val (.int (0 : Int32)), .val (.int (u1.toInt8.toInt32)), .val (.int (u2.toInt8.toInt32)), .val (.int (u3.toInt8.toInt32)), .val (.int (u4.toInt8.toInt32)), .unset, .unset]) rfl k) ?_
    show own_Go _ _ _ _ (s₁.setTop (mkF m 25 #[.val (.int u0), .val (.int u1), .val (.int u2), .val (.int u3), .val (.int u4), .val (.int (0 : Int32)), .val (.int (u1.toInt8.toInt32)), .val (.int (u2.toInt8.toInt32)), .val (.int (u3.toInt8.toInt32)), .val (.int (u4.toInt8.toInt32)), .unset, .unset] []))
    refine own_st (fun _ k => XS.iload X0.here hx rfl (hb hby at_25) rfl k) ?_
    show own_Go _ _ _ _ (s₁.setTop (mkF m 27 #[.val (.int u0), .val (.int u1), .val (.int u2), .val (.int u3), .val (.int u4), .val (.int (0 : Int32)), .val (.int (u1.toInt8.toInt32)), .val (.int (u2.toInt8.toInt32)), .val (.int (u3.toInt8.toInt32)), .val (.int (u4.toInt8.toInt32)), .unset, .unset] [(.int (0 : Int32))]))
    obtain ⟨T39, h39, k39, X39, e39, E39, A39, st39⟩ := newP X0 hx hZ (hw _ (List.mem_of_getElem? (i := 1) rfl)) e0 (g := (mkF m 27 #[.val (.int u0), .val (.int u1), .val (.int u2), .val (.int u3), .val (.int u4), .val (.int (0 : Int32)), .val (.int (u1.toInt8.toInt32)), .val (.int (u2.toInt8.toInt32)), .val (.int (u3.toInt8.toInt32)), .val (.int (u4.toInt8.toInt32)), .unset, .unset] [(.int (0 : Int32))])) rfl (hb hby at_27) rfl (by decide : ¬ ((0 : Int32) < (0 : Int32))) (cap := 0) (by decide : ((0 : Int32)).toNatClampNeg ≤ 0) (by decide) (by decide) (by decide)
    obtain ⟨b39, g39⟩ : ∃ z, z = h0.size := ⟨_, rfl⟩
    rw [← g39] at A39 st39
    refine own_st st39 ?_
    have Z39 : n0 ≤ h39.size := Nat.le_trans Z0 E39.1
    have gnb39 : n0 ≤ b39 := Nat.le_trans Z0 (Nat.le_of_eq g39.symm)
    have gkb39 : h0.size ≤ b39 := Nat.le_trans K0.1 (Nat.le_of_eq g39.symm)
    have K39 : Keep h0 h39 [] := K0.ext E39
    have V39 : Arv Z h39 b39 k39 .byte (0 : Int32) [] (.int (0 : Int32)) := Arv.new A39 (by decide : ¬ ((0 : Int32) < (0 : Int32)))
    show own_Go _ _ _ _ (T39.setTop (mkF m 29 #[.val (.int u0), .val (.int u1), .val (.int u2), .val (.int u3), .val (.int u4), .val (.int (0 : Int32)), .val (.int (u1.toInt8.toInt32)), .val (.int (u2.toInt8.toInt32)), .val (.int (u3.toInt8.toInt32)), .val (.int (u4.toInt8.toInt32)), .unset, .unset] [(.ref b39)]))
    refine own_st (fun _ k => XS.astore X39.here hx rfl (hb hby at_29) rfl rfl (l' := #[.val (.int u0), .val (.int u1), .val (.int u2), .val (.int u3), .val (.int u4), .val (.int (0 : Int32)), .val (.int (u1.toInt8.toInt32)), .val (.int (u2.toInt8.toInt32)), .val (.int (u3.toInt8.toInt32)), .val (.int (u4.toInt8.toInt32)), .val (.ref b39), .unset]) rfl k) ?_
    show own_Go _ _ _ _ (T39.setTop (mkF m 31 #[.val (.int u0), .val (.int u1), .val (.int u2), .val (.int u3), .val (.int u4), .val (.int (0 : Int32)), .val (.int (u1.toInt8.toInt32)), .val (.int (u2.toInt8.toInt32)), .val (.int (u3.toInt8.toInt32)), .val (.int (u4.toInt8.toInt32)), .val (.ref b39), .unset] []))
    refine own_st (fun _ k => XS.iload X39.here hx rfl (hb hby at_31) rfl k) ?_
    show own_Go _ _ _ _ (T39.setTop (mkF m 33 #[.val (.int u0), .val (.int u1), .val (.int u2), .val (.int u3), .val (.int u4), .val (.int (0 : Int32)), .val (.int (u1.toInt8.toInt32)), .val (.int (u2.toInt8.toInt32)), .val (.int (u3.toInt8.toInt32)), .val (.int (u4.toInt8.toInt32)), .val (.ref b39), .unset] [(.int (0 : Int32))]))
    refine own_st (fun _ k => XS.ifYes X39.here hx rfl (pc0 := 33) (pc' := 42) rfl (hb hby at_33) rfl ((if0 _ _).trans (flt (by decide : ¬ ((0 : Int32) < (0 : Int32)))).2.2.2) (by decide) (by decide) k) ?_
    show own_Go _ _ _ _ (T39.setTop (mkF m 42 #[.val (.int u0), .val (.int u1), .val (.int u2), .val (.int u3), .val (.int u4), .val (.int (0 : Int32)), .val (.int (u1.toInt8.toInt32)), .val (.int (u2.toInt8.toInt32)), .val (.int (u3.toInt8.toInt32)), .val (.int (u4.toInt8.toInt32)), .val (.ref b39), .unset] []))
    refine own_st (fun _ k => XS.iload X39.here hx rfl (hb hby at_42) rfl k) ?_
    show own_Go _ _ _ _ (T39.setTop (mkF m 44 #[.val (.int u0), .val (.int u1), .val (.int u2), .val (.int u3), .val (.int u4), .val (.int (0 : Int32)), .val (.int (u1.toInt8.toInt32)), .val (.int (u2.toInt8.toInt32)), .val (.int (u3.toInt8.toInt32)), .val (.int (u4.toInt8.toInt32)), .val (.ref b39), .unset] [(.int (0 : Int32))]))
    refine own_st (fun _ k => XS.iconst X39.here hx rfl (hb hby at_44) k) ?_
    show own_Go _ _ _ _ (T39.setTop (mkF m 45 #[.val (.int u0), .val (.int u1), .val (.int u2), .val (.int u3), .val (.int u4), .val (.int (0 : Int32)), .val (.int (u1.toInt8.toInt32)), .val (.int (u2.toInt8.toInt32)), .val (.int (u3.toInt8.toInt32)), .val (.int (u4.toInt8.toInt32)), .val (.ref b39), .unset] [(.int (1 : Int32)), (.int (0 : Int32))]))
    refine own_st (fun _ k => XS.icmpYes X39.here hx rfl (pc0 := 45) (pc' := 54) rfl (hb hby at_45) rfl (flt (by decide : ¬ ((1 : Int32) < (0 : Int32)))).2.2.2 (by decide) (by decide) k) ?_
    show own_Go _ _ _ _ (T39.setTop (mkF m 54 #[.val (.int u0), .val (.int u1), .val (.int u2), .val (.int u3), .val (.int u4), .val (.int (0 : Int32)), .val (.int (u1.toInt8.toInt32)), .val (.int (u2.toInt8.toInt32)), .val (.int (u3.toInt8.toInt32)), .val (.int (u4.toInt8.toInt32)), .val (.ref b39), .unset] []))
    refine own_st (fun _ k => XS.iload X39.here hx rfl (hb hby at_54) rfl k) ?_
    show own_Go _ _ _ _ (T39.setTop (mkF m 56 #[.val (.int u0), .val (.int u1), .val (.int u2), .val (.int u3), .val (.int u4), .val (.int (0 : Int32)), .val (.int (u1.toInt8.toInt32)), .val (.int (u2.toInt8.toInt32)), .val (.int (u3.toInt8.toInt32)), .val (.int (u4.toInt8.toInt32)), .val (.ref b39), .unset] [(.int (0 : Int32))]))
    refine own_st (fun _ k => XS.iconst X39.here hx rfl (hb hby at_56) k) ?_
    show own_Go _ _ _ _ (T39.setTop (mkF m 57 #[.val (.int u0), .val (.int u1), .val (.int u2), .val (.int u3), .val (.int u4), .val (.int (0 : Int32)), .val (.int (u1.toInt8.toInt32)), .val (.int (u2.toInt8.toInt32)), .val (.int (u3.toInt8.toInt32)), .val (.int (u4.toInt8.toInt32)), .val (.ref b39), .unset] [(.int (2 : Int32)), (.int (0 : Int32))]))
    refine own_st (fun _ k => XS.icmpYes X39.here hx rfl (pc0 := 57) (pc' := 66) rfl (hb hby at_57) rfl (flt (by decide : ¬ ((2 : Int32) < (0 : Int32)))).2.2.2 (by decide) (by decide) k) ?_
    show own_Go _ _ _ _ (T39.setTop (mkF m 66 #[.val (.int u0), .val (.int u1), .val (.int u2), .val (.int u3), .val (.int u4), .val (.int (0 : Int32)), .val (.int (u1.toInt8.toInt32)), .val (.int (u2.toInt8.toInt32)), .val (.int (u3.toInt8.toInt32)), .val (.int (u4.toInt8.toInt32)), .val (.ref b39), .unset] []))
    refine own_st (fun _ k => XS.iload X39.here hx rfl (hb hby at_66) rfl k) ?_
    show own_Go _ _ _ _ (T39.setTop (mkF m 68 #[.val (.int u0), .val (.int u1), .val (.int u2), .val (.int u3), .val (.int u4), .val (.int (0 : Int32)), .val (.int (u1.toInt8.toInt32)), .val (.int (u2.toInt8.toInt32)), .val (.int (u3.toInt8.toInt32)), .val (.int (u4.toInt8.toInt32)), .val (.ref b39), .unset] [(.int (0 : Int32))]))
    refine own_st (fun _ k => XS.iconst X39.here hx rfl (hb hby at_68) k) ?_
    show own_Go _ _ _ _ (T39.setTop (mkF m 69 #[.val (.int u0), .val (.int u1), .val (.int u2), .val (.int u3), .val (.int u4), .val (.int (0 : Int32)), .val (.int (u1.toInt8.toInt32)), .val (.int (u2.toInt8.toInt32)), .val (.int (u3.toInt8.toInt32)), .val (.int (u4.toInt8.toInt32)), .val (.ref b39), .unset] [(.int (3 : Int32)), (.int (0 : Int32))]))
    refine own_st (fun _ k => XS.icmpYes X39.here hx rfl (pc0 := 69) (pc' := 78) rfl (hb hby at_69) rfl (flt (by decide : ¬ ((3 : Int32) < (0 : Int32)))).2.2.2 (by decide) (by decide) k) ?_
    show own_Go _ _ _ _ (T39.setTop (mkF m 78 #[.val (.int u0), .val (.int u1), .val (.int u2), .val (.int u3), .val (.int u4), .val (.int (0 : Int32)), .val (.int (u1.toInt8.toInt32)), .val (.int (u2.toInt8.toInt32)), .val (.int (u3.toInt8.toInt32)), .val (.int (u4.toInt8.toInt32)), .val (.ref b39), .unset] []))
    refine own_st (fun _ k => XS.iload X39.here hx rfl (hb hby at_78) rfl k) ?_
    show own_Go _ _ _ _ (T39.setTop (mkF m 80 #[.val (.int u0), .val (.int u1), .val (.int u2), .val (.int u3), .val (.int u4), .val (.int (0 : Int32)), .val (.int (u1.toInt8.toInt32)), .val (.int (u2.toInt8.toInt32)), .val (.int (u3.toInt8.toInt32)), .val (.int (u4.toInt8.toInt32)), .val (.ref b39), .unset] [(.int (0 : Int32))]))
    refine own_st (fun _ k => XS.iconst X39.here hx rfl (hb hby at_80) k) ?_
    show own_Go _ _ _ _ (T39.setTop (mkF m 81 #[.val (.int u0), .val (.int u1), .val (.int u2), .val (.int u3), .val (.int u4), .val (.int (0 : Int32)), .val (.int (u1.toInt8.toInt32)), .val (.int (u2.toInt8.toInt32)), .val (.int (u3.toInt8.toInt32)), .val (.int (u4.toInt8.toInt32)), .val (.ref b39), .unset] [(.int (1 : Int32)), (.int (0 : Int32))]))
    refine own_st (fun _ k => XS.icmpYes X39.here hx rfl (pc0 := 81) (pc' := 92) rfl (hb hby at_81) rfl (tlt (by decide : ((0 : Int32) < (1 : Int32)))).1 (by decide) (by decide) k) ?_
    show own_Go _ _ _ _ (T39.setTop (mkF m 92 #[.val (.int u0), .val (.int u1), .val (.int u2), .val (.int u3), .val (.int u4), .val (.int (0 : Int32)), .val (.int (u1.toInt8.toInt32)), .val (.int (u2.toInt8.toInt32)), .val (.int (u3.toInt8.toInt32)), .val (.int (u4.toInt8.toInt32)), .val (.ref b39), .unset] []))
    refine own_st (fun _ k => XS.iload X39.here hx rfl (hb hby at_92) rfl k) ?_
    show own_Go _ _ _ _ (T39.setTop (mkF m 94 #[.val (.int u0), .val (.int u1), .val (.int u2), .val (.int u3), .val (.int u4), .val (.int (0 : Int32)), .val (.int (u1.toInt8.toInt32)), .val (.int (u2.toInt8.toInt32)), .val (.int (u3.toInt8.toInt32)), .val (.int (u4.toInt8.toInt32)), .val (.ref b39), .unset] [(.int (0 : Int32))]))
    refine own_st (fun _ k => XS.iconst X39.here hx rfl (hb hby at_94) k) ?_
    show own_Go _ _ _ _ (T39.setTop (mkF m 95 #[.val (.int u0), .val (.int u1), .val (.int u2), .val (.int u3), .val (.int u4), .val (.int (0 : Int32)), .val (.int (u1.toInt8.toInt32)), .val (.int (u2.toInt8.toInt32)), .val (.int (u3.toInt8.toInt32)), .val (.int (u4.toInt8.toInt32)), .val (.ref b39), .unset] [(.int (2 : Int32)), (.int (0 : Int32))]))
    refine own_st (fun _ k => XS.icmpYes X39.here hx rfl (pc0 := 95) (pc' := 106) rfl (hb hby at_95) rfl (tlt (by decide : ((0 : Int32) < (2 : Int32)))).1 (by decide) (by decide) k) ?_
    show own_Go _ _ _ _ (T39.setTop (mkF m 106 #[.val (.int u0), .val (.int u1), .val (.int u2), .val (.int u3), .val (.int u4), .val (.int (0 : Int32)), .val (.int (u1.toInt8.toInt32)), .val (.int (u2.toInt8.toInt32)), .val (.int (u3.toInt8.toInt32)), .val (.int (u4.toInt8.toInt32)), .val (.ref b39), .unset] []))
    refine own_st (fun _ k => XS.iload X39.here hx rfl (hb hby at_106) rfl k) ?_
    show own_Go _ _ _ _ (T39.setTop (mkF m 108 #[.val (.int u0), .val (.int u1), .val (.int u2), .val (.int u3), .val (.int u4), .val (.int (0 : Int32)), .val (.int (u1.toInt8.toInt32)), .val (.int (u2.toInt8.toInt32)), .val (.int (u3.toInt8.toInt32)), .val (.int (u4.toInt8.toInt32)), .val (.ref b39), .unset] [(.int (0 : Int32))]))
    refine own_st (fun _ k => XS.iconst X39.here hx rfl (hb hby at_108) k) ?_
    show own_Go _ _ _ _ (T39.setTop (mkF m 109 #[.val (.int u0), .val (.int u1), .val (.int u2), .val (.int u3), .val (.int u4), .val (.int (0 : Int32)), .val (.int (u1.toInt8.toInt32)), .val (.int (u2.toInt8.toInt32)), .val (.int (u3.toInt8.toInt32)), .val (.int (u4.toInt8.toInt32)), .val (.ref b39), .unset] [(.int (3 : Int32)), (.int (0 : Int32))]))
    refine own_st (fun _ k => XS.icmpYes X39.here hx rfl (pc0 := 109) (pc' := 120) rfl (hb hby at_109) rfl (tlt (by decide : ((0 : Int32) < (3 : Int32)))).1 (by decide) (by decide) k) ?_
    show own_Go _ _ _ _ (T39.setTop (mkF m 120 #[.val (.int u0), .val (.int u1), .val (.int u2), .val (.int u3), .val (.int u4), .val (.int (0 : Int32)), .val (.int (u1.toInt8.toInt32)), .val (.int (u2.toInt8.toInt32)), .val (.int (u3.toInt8.toInt32)), .val (.int (u4.toInt8.toInt32)), .val (.ref b39), .unset] []))
    refine own_st (fun _ k => XS.iload X39.here hx rfl (hb hby at_120) rfl k) ?_
    show own_Go _ _ _ _ (T39.setTop (mkF m 122 #[.val (.int u0), .val (.int u1), .val (.int u2), .val (.int u3), .val (.int u4), .val (.int (0 : Int32)), .val (.int (u1.toInt8.toInt32)), .val (.int (u2.toInt8.toInt32)), .val (.int (u3.toInt8.toInt32)), .val (.int (u4.toInt8.toInt32)), .val (.ref b39), .unset] [(.int (0 : Int32))]))
    refine own_st (fun _ k => XS.iconst X39.here hx rfl (hb hby at_122) k) ?_
    show own_Go _ _ _ _ (T39.setTop (mkF m 123 #[.val (.int u0), .val (.int u1), .val (.int u2), .val (.int u3), .val (.int u4), .val (.int (0 : Int32)), .val (.int (u1.toInt8.toInt32)), .val (.int (u2.toInt8.toInt32)), .val (.int (u3.toInt8.toInt32)), .val (.int (u4.toInt8.toInt32)), .val (.ref b39), .unset] [(.int (4 : Int32)), (.int (0 : Int32))]))
    refine own_st (fun _ k => XS.icmpYes X39.here hx rfl (pc0 := 123) (pc' := 134) rfl (hb hby at_123) rfl (tlt (by decide : ((0 : Int32) < (4 : Int32)))).1 (by decide) (by decide) k) ?_
    show own_Go _ _ _ _ (T39.setTop (mkF m 134 #[.val (.int u0), .val (.int u1), .val (.int u2), .val (.int u3), .val (.int u4), .val (.int (0 : Int32)), .val (.int (u1.toInt8.toInt32)), .val (.int (u2.toInt8.toInt32)), .val (.int (u3.toInt8.toInt32)), .val (.int (u4.toInt8.toInt32)), .val (.ref b39), .unset] []))
    refine own_st (fun _ k => XS.iconst X39.here hx rfl (hb hby at_134) k) ?_
    show own_Go _ _ _ _ (T39.setTop (mkF m 135 #[.val (.int u0), .val (.int u1), .val (.int u2), .val (.int u3), .val (.int u4), .val (.int (0 : Int32)), .val (.int (u1.toInt8.toInt32)), .val (.int (u2.toInt8.toInt32)), .val (.int (u3.toInt8.toInt32)), .val (.int (u4.toInt8.toInt32)), .val (.ref b39), .unset] [(.int (1 : Int32))]))
    refine own_st (fun _ k => XS.goto X39.here hx rfl (pc0 := 135) (pc' := 139) rfl (hb hby at_135) (by decide) (by decide) k) ?_
    show own_Go _ _ _ _ (T39.setTop (mkF m 139 #[.val (.int u0), .val (.int u1), .val (.int u2), .val (.int u3), .val (.int u4), .val (.int (0 : Int32)), .val (.int (u1.toInt8.toInt32)), .val (.int (u2.toInt8.toInt32)), .val (.int (u3.toInt8.toInt32)), .val (.int (u4.toInt8.toInt32)), .val (.ref b39), .unset] [(.int (1 : Int32))]))
    refine own_st (fun _ k => XS.istore X39.here hx rfl (hb hby at_139) rfl (l' := #[.val (.int u0), .val (.int u1), .val (.int u2), .val (.int u3), .val (.int u4), .val (.int (0 : Int32)), .val (.int (u1.toInt8.toInt32)), .val (.int (u2.toInt8.toInt32)), .val (.int (u3.toInt8.toInt32)), .val (.int (u4.toInt8.toInt32)), .val (.ref b39), .val (.int (1 : Int32))]) rfl k) ?_
    show own_Go _ _ _ _ (T39.setTop (mkF m 141 #[.val (.int u0), .val (.int u1), .val (.int u2), .val (.int u3), .val (.int u4), .val (.int (0 : Int32)), .val (.int (u1.toInt8.toInt32)), .val (.int (u2.toInt8.toInt32)), .val (.int (u3.toInt8.toInt32)), .val (.int (u4.toInt8.toInt32)), .val (.ref b39), .val (.int (1 : Int32))] []))
    refine own_st (fun _ k => XS.aload X39.here hx rfl (hb hby at_141) rfl rfl k) ?_
    show own_Go _ _ _ _ (T39.setTop (mkF m 143 #[.val (.int u0), .val (.int u1), .val (.int u2), .val (.int u3), .val (.int u4), .val (.int (0 : Int32)), .val (.int (u1.toInt8.toInt32)), .val (.int (u2.toInt8.toInt32)), .val (.int (u3.toInt8.toInt32)), .val (.int (u4.toInt8.toInt32)), .val (.ref b39), .val (.int (1 : Int32))] [(.ref b39)]))
    obtain ⟨_, _, ⟨T40, L40, k40, n40⟩, -, X40, ⟨Lc40, hQ40, l40, y40, z40⟩, st40⟩ := Jvm.LawKit.callS X39 hx (y := (⟨"quillvax/mllp/Mllp", "carries", "([B)Z"⟩ : MethodName)) hown (mvT hZ (hw _ (List.mem_of_getElem? (i := 2) rfl))) (mvT hZ (hw _ (List.mem_of_getElem? (i := 3) rfl))) (mvT hZ (hw _ (List.mem_of_getElem? (i := 4) rfl))) (mvT hZ (hw _ (List.mem_of_getElem? (i := 5) rfl))) (by decide) (backOf (W := 0) (rm1_0 l Z a0 hw [] b39 k39  h39 n0 Z39 V39) hZ (hw _ (List.mem_of_getElem? (i := 5) rfl)) (hw _ (List.mem_of_getElem? (i := 4) rfl)) (by decide) (by decide)) (g := (mkF m 143 #[.val (.int u0), .val (.int u1), .val (.int u2), .val (.int u3), .val (.int u4), .val (.int (0 : Int32)), .val (.int (u1.toInt8.toInt32)), .val (.int (u2.toInt8.toInt32)), .val (.int (u3.toInt8.toInt32)), .val (.int (u4.toInt8.toInt32)), .val (.ref b39), .val (.int (1 : Int32))] [(.ref b39)])) rfl (by rw [hml]; rfl) (argsL := [(.ref b39)]) (rest := []) (lenOf own_pd1 rfl) rfl (by show 2 * 0 + _ ≤ _; exact Nat.le_of_eq rfl) (hb hby at_143) (fun _ _ => ⟨rfl, e39, (by decide : 1 + 0 ≤ _), (by decide : 0 + 0 ≤ _)⟩)
    dsimp only [Pt.U, Pt.locs, Pt.cells, Pt.slots] at X40 l40 y40 z40 st40 hQ40
    subst l40 y40 z40
    obtain ⟨rfl, Nq40, eq40⟩ := hQ40
    have N40 := Fr.app N0 Nq40
    refine own_st st40 ?_
    show own_Go _ _ _ _ (T40.setTop (mkF m 146 #[.val (.int u0), .val (.int u1), .val (.int u2), .val (.int u3), .val (.int u4), .val (.int (0 : Int32)), .val (.int (u1.toInt8.toInt32)), .val (.int (u2.toInt8.toInt32)), .val (.int (u3.toInt8.toInt32)), .val (.int (u4.toInt8.toInt32)), .val (.ref b39), .val (.int (1 : Int32))] [(.int own_ca0)]))
    refine own_st (fun _ k => XS.iload X40.here hx rfl (hb hby at_146) rfl k) ?_
    show own_Go _ _ _ _ (T40.setTop (mkF m 148 #[.val (.int u0), .val (.int u1), .val (.int u2), .val (.int u3), .val (.int u4), .val (.int (0 : Int32)), .val (.int (u1.toInt8.toInt32)), .val (.int (u2.toInt8.toInt32)), .val (.int (u3.toInt8.toInt32)), .val (.int (u4.toInt8.toInt32)), .val (.ref b39), .val (.int (1 : Int32))] [(.int (1 : Int32)), (.int own_ca0)]))
    refine own_st (fun _ k => XS.icmpNo X40.here hx rfl (hb hby at_148) rfl (teq (by unfold own_ca0; rfl)).2 k) ?_
    show own_Go _ _ _ _ (T40.setTop (mkF m 151 #[.val (.int u0), .val (.int u1), .val (.int u2), .val (.int u3), .val (.int u4), .val (.int (0 : Int32)), .val (.int (u1.toInt8.toInt32)), .val (.int (u2.toInt8.toInt32)), .val (.int (u3.toInt8.toInt32)), .val (.int (u4.toInt8.toInt32)), .val (.ref b39), .val (.int (1 : Int32))] []))
    refine own_st (fun _ k => XS.iconst X40.here hx rfl (hb hby at_151) k) ?_
    show own_Go _ _ _ _ (T40.setTop (mkF m 152 #[.val (.int u0), .val (.int u1), .val (.int u2), .val (.int u3), .val (.int u4), .val (.int (0 : Int32)), .val (.int (u1.toInt8.toInt32)), .val (.int (u2.toInt8.toInt32)), .val (.int (u3.toInt8.toInt32)), .val (.int (u4.toInt8.toInt32)), .val (.ref b39), .val (.int (1 : Int32))] [(.int (1 : Int32))]))
    refine own_st (fun _ k => XS.goto X40.here hx rfl (pc0 := 152) (pc' := 156) rfl (hb hby at_152) (by decide) (by decide) k) ?_
    show own_Go _ _ _ _ (T40.setTop (mkF m 156 #[.val (.int u0), .val (.int u1), .val (.int u2), .val (.int u3), .val (.int u4), .val (.int (0 : Int32)), .val (.int (u1.toInt8.toInt32)), .val (.int (u2.toInt8.toInt32)), .val (.int (u3.toInt8.toInt32)), .val (.int (u4.toInt8.toInt32)), .val (.ref b39), .val (.int (1 : Int32))] [(.int (1 : Int32))]))
    obtain ⟨fs, hr, hrun, hended, hW, hsame⟩ := X40.leave (v := some (.int (1 : Int32))) (fun h => by rw [Bd.returns] at h; cases h)
    refine own_out (retN X40 hx (t := .boolean) Bd.returns (by simp) (hb hby at_156) hr) ⟨hrun, hended, _, _, rfl, ?_, ⟨_, rfl⟩, hW, hsame.mono (by decide) (by decide)⟩
    show Q0 Z u0 u1 u2 u3 u4 h0 n0 _ T40.heap _
    exact ⟨rfl, N40⟩
  · skip
    rw [hs38]
    show own_Go _ _ _ _ (s₁.setTop (mkF m 8 #[.val (.int u0), .val (.int u1), .val (.int u2), .val (.int u3), .val (.int u4), .val (.int (1 : Int32)), .unset, .unset, .unset, .unset, .unset, .unset] []))
    refine own_st (fun _ k => XS.iloadN X0.here hx rfl (hb hby at_8) rfl k) ?_
    show own_Go _ _ _ _ (s₁.setTop (mkF m 9 #[.val (.int u0), .val (.int u1), .val (.int u2), .val (.int u3), .val (.int u4), .val (.int (1 : Int32)), .unset, .unset, .unset, .unset, .unset, .unset] [(.int u1)]))
    refine own_st (fun _ k => XS.i2b X0.here hx rfl (hb hby at_9) rfl k) ?_
    show own_Go _ _ _ _ (s₁.setTop (mkF m 10 #[.val (.int u0), .val (.int u1), .val (.int u2), .val (.int u3), .val (.int u4), .val (.int (1 : Int32)), .unset, .unset, .unset, .unset, .unset, .unset] [(.int (u1.toInt8.toInt32))]))
    refine own_st (fun _ k => XS.istore X0.here hx rfl (hb hby at_10) rfl (l' := #[.val (.int u0), .val (.int u1), .val (.int u2), .val (.int u3), .val (.int u4), .val (.int (1 : Int32)), .val (.int (u1.toInt8.toInt32)), .unset, .unset, .unset, .unset, .unset]) rfl k) ?_
    show own_Go _ _ _ _ (s₁.setTop (mkF m 12 #[.val (.int u0), .val (.int u1), .val (.int u2), .val (.int u3), .val (.int u4), .val (.int (1 : Int32)), .val (.int (u1.toInt8.toInt32)), .unset, .unset, .unset, .unset, .unset] []))
    refine own_st (fun _ k => XS.iloadN X0.here hx rfl (hb hby at_12) rfl k) ?_
    show own_Go _ _ _ _ (s₁.setTop (mkF m 13 #[.val (.int u0), .val (.int u1), .val (.int u2), .val (.int u3), .val (.int u4), .val (.int (1 : Int32)), .val (.int (u1.toInt8.toInt32)), .unset, .unset, .unset, .unset, .unset] [(.int u2)]))
    refine own_st (fun _ k => XS.i2b X0.here hx rfl (hb hby at_13) rfl k) ?_
    show own_Go _ _ _ _ (s₁.setTop (mkF m 14 #[.val (.int u0), .val (.int u1), .val (.int u2), .val (.int u3), .val (.int u4), .val (.int (1 : Int32)), .val (.int (u1.toInt8.toInt32)), .unset, .unset, .unset, .unset, .unset] [(.int (u2.toInt8.toInt32))]))
    refine own_st (fun _ k => XS.istore X0.here hx rfl (hb hby at_14) rfl (l' := #[.val (.int u0), .val (.int u1), .val (.int u2), .val (.int u3), .val (.int u4), .val (.int (1 : Int32)), .val (.int (u1.toInt8.toInt32)), .val (.int (u2.toInt8.toInt32)), .unset, .unset, .unset, .unset]) rfl k) ?_
    show own_Go _ _ _ _ (s₁.setTop (mkF m 16 #[.val (.int u0), .val (.int u1), .val (.int u2), .val (.int u3), .val (.int u4), .val (.int (1 : Int32)), .val (.int (u1.toInt8.toInt32)), .val (.int (u2.toInt8.toInt32)), .unset, .unset, .unset, .unset] []))
    refine own_st (fun _ k => XS.iloadN X0.here hx rfl (hb hby at_16) rfl k) ?_
    show own_Go _ _ _ _ (s₁.setTop (mkF m 17 #[.val (.int u0), .val (.int u1), .val (.int u2), .val (.int u3), .val (.int u4), .val (.int (1 : Int32)), .val (.int (u1.toInt8.toInt32)), .val (.int (u2.toInt8.toInt32)), .unset, .unset, .unset, .unset] [(.int u3)]))
    refine own_st (fun _ k => XS.i2b X0.here hx rfl (hb hby at_17) rfl k) ?_
    show own_Go _ _ _ _ (s₁.setTop (mkF m 18 #[.val (.int u0), .val (.int u1), .val (.int u2), .val (.int u3), .val (.int u4), .val (.int (1 : Int32)), .val (.int (u1.toInt8.toInt32)), .val (.int (u2.toInt8.toInt32)), .unset, .unset, .unset, .unset] [(.int (u3.toInt8.toInt32))]))
    refine own_st (fun _ k => XS.istore X0.here hx rfl (hb hby at_18) rfl (l' := #[.val (.int u0), .val (.int u1), .val (.int u2), .val (.int u3), .val (.int u4), .val (.int (1 : Int32)), .val (.int (u1.toInt8.toInt32)), .val (.int (u2.toInt8.toInt32)), .val (.int (u3.toInt8.toInt32)), .unset, .unset, .unset]) rfl k) ?_
    show own_Go _ _ _ _ (s₁.setTop (mkF m 20 #[.val (.int u0), .val (.int u1), .val (.int u2), .val (.int u3), .val (.int u4), .val (.int (1 : Int32)), .val (.int (u1.toInt8.toInt32)), .val (.int (u2.toInt8.toInt32)), .val (.int (u3.toInt8.toInt32)), .unset, .unset, .unset] []))
    refine own_st (fun _ k => XS.iload X0.here hx rfl (hb hby at_20) rfl k) ?_
    show own_Go _ _ _ _ (s₁.setTop (mkF m 22 #[.val (.int u0), .val (.int u1), .val (.int u2), .val (.int u3), .val (.int u4), .val (.int (1 : Int32)), .val (.int (u1.toInt8.toInt32)), .val (.int (u2.toInt8.toInt32)), .val (.int (u3.toInt8.toInt32)), .unset, .unset, .unset] [(.int u4)]))
    refine own_st (fun _ k => XS.i2b X0.here hx rfl (hb hby at_22) rfl k) ?_
    show own_Go _ _ _ _ (s₁.setTop (mkF m 23 #[.val (.int u0), .val (.int u1), .val (.int u2), .val (.int u3), .val (.int u4), .val (.int (1 : Int32)), .val (.int (u1.toInt8.toInt32)), .val (.int (u2.toInt8.toInt32)), .val (.int (u3.toInt8.toInt32)), .unset, .unset, .unset] [(.int (u4.toInt8.toInt32))]))
    refine own_st (fun _ k => XS.istore X0.here hx rfl (hb hby at_23) rfl (l' := #[.val (.int u0), .val (.int u1), .val (.int u2), .val (.int u3), .val (.int u4), .val (.int (1 : Int32)), .val (.int (u1.toInt8.toInt32)), .val (.int (u2.toInt8.toInt32)), .val (.int (u3.toInt8.toInt32)), .val (.int (u4.toInt8.toInt32)), .unset, .unset]) rfl k) ?_
    show own_Go _ _ _ _ (s₁.setTop (mkF m 25 #[.val (.int u0), .val (.int u1), .val (.int u2), .val (.int u3), .val (.int u4), .val (.int (1 : Int32)), .val (.int (u1.toInt8.toInt32)), .val (.int (u2.toInt8.toInt32)), .val (.int (u3.toInt8.toInt32)), .val (.int (u4.toInt8.toInt32)), .unset, .unset] []))
    refine own_st (fun _ k => XS.iload X0.here hx rfl (hb hby at_25) rfl k) ?_
    show own_Go _ _ _ _ (s₁.setTop (mkF m 27 #[.val (.int u0), .val (.int u1), .val (.int u2), .val (.int u3), .val (.int u4), .val (.int (1 : Int32)), .val (.int (u1.toInt8.toInt32)), .val (.int (u2.toInt8.toInt32)), .val (.int (u3.toInt8.toInt32)), .val (.int (u4.toInt8.toInt32)), .unset, .unset] [(.int (1 : Int32))]))
    obtain ⟨T41, h41, k41, X41, e41, E41, A41, st41⟩ := newP X0 hx hZ (hw _ (List.mem_of_getElem? (i := 1) rfl)) e0 (g := (mkF m 27 #[.val (.int u0), .val (.int u1), .val (.int u2), .val (.int u3), .val (.int u4), .val (.int (1 : Int32)), .val (.int (u1.toInt8.toInt32)), .val (.int (u2.toInt8.toInt32)), .val (.int (u3.toInt8.toInt32)), .val (.int (u4.toInt8.toInt32)), .unset, .unset] [(.int (1 : Int32))])) rfl (hb hby at_27) rfl (by decide : ¬ ((1 : Int32) < (0 : Int32))) (cap := 1) (by decide : ((1 : Int32)).toNatClampNeg ≤ 1) (by decide) (by decide) (by decide)
    obtain ⟨b41, g41⟩ : ∃ z, z = h0.size := ⟨_, rfl⟩
    rw [← g41] at A41 st41
    refine own_st st41 ?_
    have Z41 : n0 ≤ h41.size := Nat.le_trans Z0 E41.1
    have gnb41 : n0 ≤ b41 := Nat.le_trans Z0 (Nat.le_of_eq g41.symm)
    have gkb41 : h0.size ≤ b41 := Nat.le_trans K0.1 (Nat.le_of_eq g41.symm)
    have K41 : Keep h0 h41 [] := K0.ext E41
    have V41 : Arv Z h41 b41 k41 .byte (1 : Int32) [(.int (0 : Int32))] (.int (0 : Int32)) := (Arv.new A41 (by decide : ¬ ((1 : Int32) < (0 : Int32)))).pad (pad_rep [] (.int (0 : Int32)) 1)
    show own_Go _ _ _ _ (T41.setTop (mkF m 29 #[.val (.int u0), .val (.int u1), .val (.int u2), .val (.int u3), .val (.int u4), .val (.int (1 : Int32)), .val (.int (u1.toInt8.toInt32)), .val (.int (u2.toInt8.toInt32)), .val (.int (u3.toInt8.toInt32)), .val (.int (u4.toInt8.toInt32)), .unset, .unset] [(.ref b41)]))
    refine own_st (fun _ k => XS.astore X41.here hx rfl (hb hby at_29) rfl rfl (l' := #[.val (.int u0), .val (.int u1), .val (.int u2), .val (.int u3), .val (.int u4), .val (.int (1 : Int32)), .val (.int (u1.toInt8.toInt32)), .val (.int (u2.toInt8.toInt32)), .val (.int (u3.toInt8.toInt32)), .val (.int (u4.toInt8.toInt32)), .val (.ref b41), .unset]) rfl k) ?_
    show own_Go _ _ _ _ (T41.setTop (mkF m 31 #[.val (.int u0), .val (.int u1), .val (.int u2), .val (.int u3), .val (.int u4), .val (.int (1 : Int32)), .val (.int (u1.toInt8.toInt32)), .val (.int (u2.toInt8.toInt32)), .val (.int (u3.toInt8.toInt32)), .val (.int (u4.toInt8.toInt32)), .val (.ref b41), .unset] []))
    refine own_st (fun _ k => XS.iload X41.here hx rfl (hb hby at_31) rfl k) ?_
    show own_Go _ _ _ _ (T41.setTop (mkF m 33 #[.val (.int u0), .val (.int u1), .val (.int u2), .val (.int u3), .val (.int u4), .val (.int (1 : Int32)), .val (.int (u1.toInt8.toInt32)), .val (.int (u2.toInt8.toInt32)), .val (.int (u3.toInt8.toInt32)), .val (.int (u4.toInt8.toInt32)), .val (.ref b41), .unset] [(.int (1 : Int32))]))
    refine own_st (fun _ k => XS.ifNo X41.here hx rfl (hb hby at_33) rfl ((if0 _ _).trans (tlt (by decide : ((0 : Int32) < (1 : Int32)))).2.2.2) k) ?_
    show own_Go _ _ _ _ (T41.setTop (mkF m 36 #[.val (.int u0), .val (.int u1), .val (.int u2), .val (.int u3), .val (.int u4), .val (.int (1 : Int32)), .val (.int (u1.toInt8.toInt32)), .val (.int (u2.toInt8.toInt32)), .val (.int (u3.toInt8.toInt32)), .val (.int (u4.toInt8.toInt32)), .val (.ref b41), .unset] []))
    refine own_st (fun _ k => XS.aload X41.here hx rfl (hb hby at_36) rfl rfl k) ?_
    show own_Go _ _ _ _ (T41.setTop (mkF m 38 #[.val (.int u0), .val (.int u1), .val (.int u2), .val (.int u3), .val (.int u4), .val (.int (1 : Int32)), .val (.int (u1.toInt8.toInt32)), .val (.int (u2.toInt8.toInt32)), .val (.int (u3.toInt8.toInt32)), .val (.int (u4.toInt8.toInt32)), .val (.ref b41), .unset] [(.ref b41)]))
    refine own_st (fun _ k => XS.iconst X41.here hx rfl (hb hby at_38) k) ?_
    show own_Go _ _ _ _ (T41.setTop (mkF m 39 #[.val (.int u0), .val (.int u1), .val (.int u2), .val (.int u3), .val (.int u4), .val (.int (1 : Int32)), .val (.int (u1.toInt8.toInt32)), .val (.int (u2.toInt8.toInt32)), .val (.int (u3.toInt8.toInt32)), .val (.int (u4.toInt8.toInt32)), .val (.ref b41), .unset] [(.int (0 : Int32)), (.ref b41)]))
    refine own_st (fun _ k => XS.iload X41.here hx rfl (hb hby at_39) rfl k) ?_
    show own_Go _ _ _ _ (T41.setTop (mkF m 41 #[.val (.int u0), .val (.int u1), .val (.int u2), .val (.int u3), .val (.int u4), .val (.int (1 : Int32)), .val (.int (u1.toInt8.toInt32)), .val (.int (u2.toInt8.toInt32)), .val (.int (u3.toInt8.toInt32)), .val (.int (u4.toInt8.toInt32)), .val (.ref b41), .unset] [(.int (u1.toInt8.toInt32)), (.int (0 : Int32)), (.ref b41)]))
    obtain ⟨cl42, Ar42, Kd42, Sz42, Nn42, Hs42, Gs42⟩ := id V41
    obtain ⟨T42, h42, X42, e42, W42, st42⟩ := stB X41 hx hZ e41 Ar42 (j := (0 : Int32)) (inb_of Sz42 ⟨(by decide : ¬ ((0 : Int32) < (0 : Int32))), (by decide : (0 : Int32) < (1 : Int32))⟩) (g := (mkF m 41 #[.val (.int u0), .val (.int u1), .val (.int u2), .val (.int u3), .val (.int u4), .val (.int (1 : Int32)), .val (.int (u1.toInt8.toInt32)), .val (.int (u2.toInt8.toInt32)), .val (.int (u3.toInt8.toInt32)), .val (.int (u4.toInt8.toInt32)), .val (.ref b41), .unset] [(.int (u1.toInt8.toInt32)), (.int (0 : Int32)), (.ref b41)])) rfl rfl (hb hby at_41)
    refine own_st st42 ?_
    have V42 := Arv.set Ar42 Kd42 Sz42 Nn42 Hs42 Gs42 (fits_nar_byte _) W42 0 rfl (Nat.le_of_ble_eq_true rfl)
    have V42' : Arv Z h42 b41 k41 .byte (1 : Int32) [(.int (u1.toInt8.toInt32))] (.int (0 : Int32)) := by have q := V42; rw [own_narB] at q; exact q
    have Z42 : n0 ≤ h42.size := Nat.le_trans Z41 (Nat.le_of_eq W42.size.symm)
    have N42 := Fr.snoc X42 N0 gnb41
    have K42 : Keep h0 h42 [] := K41.wr W42 (Or.inr gkb41)
    show own_Go _ _ _ _ (T42.setTop (mkF m 42 #[.val (.int u0), .val (.int u1), .val (.int u2), .val (.int u3), .val (.int u4), .val (.int (1 : Int32)), .val (.int (u1.toInt8.toInt32)), .val (.int (u2.toInt8.toInt32)), .val (.int (u3.toInt8.toInt32)), .val (.int (u4.toInt8.toInt32)), .val (.ref b41), .unset] []))
    refine own_st (fun _ k => XS.iload X42.here hx rfl (hb hby at_42) rfl k) ?_
    show own_Go _ _ _ _ (T42.setTop (mkF m 44 #[.val (.int u0), .val (.int u1), .val (.int u2), .val (.int u3), .val (.int u4), .val (.int (1 : Int32)), .val (.int (u1.toInt8.toInt32)), .val (.int (u2.toInt8.toInt32)), .val (.int (u3.toInt8.toInt32)), .val (.int (u4.toInt8.toInt32)), .val (.ref b41), .unset] [(.int (1 : Int32))]))
    refine own_st (fun _ k => XS.iconst X42.here hx rfl (hb hby at_44) k) ?_
    show own_Go _ _ _ _ (T42.setTop (mkF m 45 #[.val (.int u0), .val (.int u1), .val (.int u2), .val (.int u3), .val (.int u4), .val (.int (1 : Int32)), .val (.int (u1.toInt8.toInt32)), .val (.int (u2.toInt8.toInt32)), .val (.int (u3.toInt8.toInt32)), .val (.int (u4.toInt8.toInt32)), .val (.ref b41), .unset] [(.int (1 : Int32)), (.int (1 : Int32))]))
    refine own_st (fun _ k => XS.icmpYes X42.here hx rfl (pc0 := 45) (pc' := 54) rfl (hb hby at_45) rfl (flt (by decide : ¬ ((1 : Int32) < (1 : Int32)))).2.2.2 (by decide) (by decide) k) ?_
    show own_Go _ _ _ _ (T42.setTop (mkF m 54 #[.val (.int u0), .val (.int u1), .val (.int u2), .val (.int u3), .val (.int u4), .val (.int (1 : Int32)), .val (.int (u1.toInt8.toInt32)), .val (.int (u2.toInt8.toInt32)), .val (.int (u3.toInt8.toInt32)), .val (.int (u4.toInt8.toInt32)), .val (.ref b41), .unset] []))
    refine own_st (fun _ k => XS.iload X42.here hx rfl (hb hby at_54) rfl k) ?_
    show own_Go _ _ _ _ (T42.setTop (mkF m 56 #[.val (.int u0), .val (.int u1), .val (.int u2), .val (.int u3), .val (.int u4), .val (.int (1 : Int32)), .val (.int (u1.toInt8.toInt32)), .val (.int (u2.toInt8.toInt32)), .val (.int (u3.toInt8.toInt32)), .val (.int (u4.toInt8.toInt32)), .val (.ref b41), .unset] [(.int (1 : Int32))]))
    refine own_st (fun _ k => XS.iconst X42.here hx rfl (hb hby at_56) k) ?_
    show own_Go _ _ _ _ (T42.setTop (mkF m 57 #[.val (.int u0), .val (.int u1), .val (.int u2), .val (.int u3), .val (.int u4), .val (.int (1 : Int32)), .val (.int (u1.toInt8.toInt32)), .val (.int (u2.toInt8.toInt32)), .val (.int (u3.toInt8.toInt32)), .val (.int (u4.toInt8.toInt32)), .val (.ref b41), .unset] [(.int (2 : Int32)), (.int (1 : Int32))]))
    refine own_st (fun _ k => XS.icmpYes X42.here hx rfl (pc0 := 57) (pc' := 66) rfl (hb hby at_57) rfl (flt (by decide : ¬ ((2 : Int32) < (1 : Int32)))).2.2.2 (by decide) (by decide) k) ?_
    show own_Go _ _ _ _ (T42.setTop (mkF m 66 #[.val (.int u0), .val (.int u1), .val (.int u2), .val (.int u3), .val (.int u4), .val (.int (1 : Int32)), .val (.int (u1.toInt8.toInt32)), .val (.int (u2.toInt8.toInt32)), .val (.int (u3.toInt8.toInt32)), .val (.int (u4.toInt8.toInt32)), .val (.ref b41), .unset] []))
    refine own_st (fun _ k => XS.iload X42.here hx rfl (hb hby at_66) rfl k) ?_
    show own_Go _ _ _ _ (T42.setTop (mkF m 68 #[.val (.int u0), .val (.int u1), .val (.int u2), .val (.int u3), .val (.int u4), .val (.int (1 : Int32)), .val (.int (u1.toInt8.toInt32)), .val (.int (u2.toInt8.toInt32)), .val (.int (u3.toInt8.toInt32)), .val (.int (u4.toInt8.toInt32)), .val (.ref b41), .unset] [(.int (1 : Int32))]))
    refine own_st (fun _ k => XS.iconst X42.here hx rfl (hb hby at_68) k) ?_
    show own_Go _ _ _ _ (T42.setTop (mkF m 69 #[.val (.int u0), .val (.int u1), .val (.int u2), .val (.int u3), .val (.int u4), .val (.int (1 : Int32)), .val (.int (u1.toInt8.toInt32)), .val (.int (u2.toInt8.toInt32)), .val (.int (u3.toInt8.toInt32)), .val (.int (u4.toInt8.toInt32)), .val (.ref b41), .unset] [(.int (3 : Int32)), (.int (1 : Int32))]))
    refine own_st (fun _ k => XS.icmpYes X42.here hx rfl (pc0 := 69) (pc' := 78) rfl (hb hby at_69) rfl (flt (by decide : ¬ ((3 : Int32) < (1 : Int32)))).2.2.2 (by decide) (by decide) k) ?_
    show own_Go _ _ _ _ (T42.setTop (mkF m 78 #[.val (.int u0), .val (.int u1), .val (.int u2), .val (.int u3), .val (.int u4), .val (.int (1 : Int32)), .val (.int (u1.toInt8.toInt32)), .val (.int (u2.toInt8.toInt32)), .val (.int (u3.toInt8.toInt32)), .val (.int (u4.toInt8.toInt32)), .val (.ref b41), .unset] []))
    refine own_st (fun _ k => XS.iload X42.here hx rfl (hb hby at_78) rfl k) ?_
    show own_Go _ _ _ _ (T42.setTop (mkF m 80 #[.val (.int u0), .val (.int u1), .val (.int u2), .val (.int u3), .val (.int u4), .val (.int (1 : Int32)), .val (.int (u1.toInt8.toInt32)), .val (.int (u2.toInt8.toInt32)), .val (.int (u3.toInt8.toInt32)), .val (.int (u4.toInt8.toInt32)), .val (.ref b41), .unset] [(.int (1 : Int32))]))
    refine own_st (fun _ k => XS.iconst X42.here hx rfl (hb hby at_80) k) ?_
    show own_Go _ _ _ _ (T42.setTop (mkF m 81 #[.val (.int u0), .val (.int u1), .val (.int u2), .val (.int u3), .val (.int u4), .val (.int (1 : Int32)), .val (.int (u1.toInt8.toInt32)), .val (.int (u2.toInt8.toInt32)), .val (.int (u3.toInt8.toInt32)), .val (.int (u4.toInt8.toInt32)), .val (.ref b41), .unset] [(.int (1 : Int32)), (.int (1 : Int32))]))
    refine own_st (fun _ k => XS.icmpNo X42.here hx rfl (hb hby at_81) rfl (flt (by decide : ¬ ((1 : Int32) < (1 : Int32)))).1 k) ?_
    show own_Go _ _ _ _ (T42.setTop (mkF m 84 #[.val (.int u0), .val (.int u1), .val (.int u2), .val (.int u3), .val (.int u4), .val (.int (1 : Int32)), .val (.int (u1.toInt8.toInt32)), .val (.int (u2.toInt8.toInt32)), .val (.int (u3.toInt8.toInt32)), .val (.int (u4.toInt8.toInt32)), .val (.ref b41), .unset] []))
    refine own_st (fun _ k => XS.iload X42.here hx rfl (hb hby at_84) rfl k) ?_
    show own_Go _ _ _ _ (T42.setTop (mkF m 86 #[.val (.int u0), .val (.int u1), .val (.int u2), .val (.int u3), .val (.int u4), .val (.int (1 : Int32)), .val (.int (u1.toInt8.toInt32)), .val (.int (u2.toInt8.toInt32)), .val (.int (u3.toInt8.toInt32)), .val (.int (u4.toInt8.toInt32)), .val (.ref b41), .unset] [(.int (u1.toInt8.toInt32))]))
    obtain ⟨_, _, ⟨T43, L43, k43, n43⟩, -, X43, ⟨Lc43, hQ43, l43, y43, z43⟩, st43⟩ := Jvm.LawKit.callS X42 hx (y := (⟨"quillvax/mllp/MllpCarriesPinLaw", "clean", "(B)Z"⟩ : MethodName)) hown (mvT hZ (hw _ (List.mem_of_getElem? (i := 6) rfl))) (mvT hZ (hw _ (List.mem_of_getElem? (i := 7) rfl))) (mvT hZ (hw _ (List.mem_of_getElem? (i := 8) rfl))) (mvT hZ (hw _ (List.mem_of_getElem? (i := 9) rfl))) (by decide) (backOf (W := 0) (rm2 l Z a0 hw [] (u1.toInt8.toInt32) h42 n0 Z42 ) hZ (hw _ (List.mem_of_getElem? (i := 9) rfl)) (hw _ (List.mem_of_getElem? (i := 8) rfl)) (by decide) (by decide)) (g := (mkF m 86 #[.val (.int u0), .val (.int u1), .val (.int u2), .val (.int u3), .val (.int u4), .val (.int (1 : Int32)), .val (.int (u1.toInt8.toInt32)), .val (.int (u2.toInt8.toInt32)), .val (.int (u3.toInt8.toInt32)), .val (.int (u4.toInt8.toInt32)), .val (.ref b41), .unset] [(.int (u1.toInt8.toInt32))])) rfl (by rw [hml]; rfl) (argsL := [(.int (u1.toInt8.toInt32))]) (rest := []) (lenOf own_pd0 rfl) rfl (by show 2 * 0 + _ ≤ _; exact Nat.le_of_eq rfl) (hb hby at_86) (fun _ _ => ⟨rfl, e42, (by decide : 1 + 0 ≤ _), (by decide : 1 + 0 ≤ _)⟩)
    dsimp only [Pt.U, Pt.locs, Pt.cells, Pt.slots] at X43 l43 y43 z43 st43 hQ43
    subst l43 y43 z43
    obtain ⟨rfl, Nq43, eq43⟩ := hQ43
    have N43 := Fr.app N42 Nq43
    refine own_st st43 ?_
    show own_Go _ _ _ _ (T43.setTop (mkF m 89 #[.val (.int u0), .val (.int u1), .val (.int u2), .val (.int u3), .val (.int u4), .val (.int (1 : Int32)), .val (.int (u1.toInt8.toInt32)), .val (.int (u2.toInt8.toInt32)), .val (.int (u3.toInt8.toInt32)), .val (.int (u4.toInt8.toInt32)), .val (.ref b41), .unset] [(.int (own_cl (u1.toInt8.toInt32)))]))
    by_cases hc44 : (own_cl (u1.toInt8.toInt32)) = (0 : Int32)
    · skip
      refine own_st (fun _ k => XS.ifYes X43.here hx rfl (pc0 := 89) (pc' := 138) rfl (hb hby at_89) rfl ((if0 _ _).trans (teq hc44).1) (by decide) (by decide) k) ?_
      show own_Go _ _ _ _ (T43.setTop (mkF m 138 #[.val (.int u0), .val (.int u1), .val (.int u2), .val (.int u3), .val (.int u4), .val (.int (1 : Int32)), .val (.int (u1.toInt8.toInt32)), .val (.int (u2.toInt8.toInt32)), .val (.int (u3.toInt8.toInt32)), .val (.int (u4.toInt8.toInt32)), .val (.ref b41), .unset] []))
      refine own_st (fun _ k => XS.iconst X43.here hx rfl (hb hby at_138) k) ?_
      show own_Go _ _ _ _ (T43.setTop (mkF m 139 #[.val (.int u0), .val (.int u1), .val (.int u2), .val (.int u3), .val (.int u4), .val (.int (1 : Int32)), .val (.int (u1.toInt8.toInt32)), .val (.int (u2.toInt8.toInt32)), .val (.int (u3.toInt8.toInt32)), .val (.int (u4.toInt8.toInt32)), .val (.ref b41), .unset] [(.int (0 : Int32))]))
      refine own_st (fun _ k => XS.istore X43.here hx rfl (hb hby at_139) rfl (l' := #[.val (.int u0), .val (.int u1), .val (.int u2), .val (.int u3), .val (.int u4), .val (.int (1 : Int32)), .val (.int (u1.toInt8.toInt32)), .val (.int (u2.toInt8.toInt32)), .val (.int (u3.toInt8.toInt32)), .val (.int (u4.toInt8.toInt32)), .val (.ref b41), .val (.int (0 : Int32))]) rfl k) ?_
      show own_Go _ _ _ _ (T43.setTop (mkF m 141 #[.val (.int u0), .val (.int u1), .val (.int u2), .val (.int u3), .val (.int u4), .val (.int (1 : Int32)), .val (.int (u1.toInt8.toInt32)), .val (.int (u2.toInt8.toInt32)), .val (.int (u3.toInt8.toInt32)), .val (.int (u4.toInt8.toInt32)), .val (.ref b41), .val (.int (0 : Int32))] []))
      refine own_st (fun _ k => XS.aload X43.here hx rfl (hb hby at_141) rfl rfl k) ?_
      show own_Go _ _ _ _ (T43.setTop (mkF m 143 #[.val (.int u0), .val (.int u1), .val (.int u2), .val (.int u3), .val (.int u4), .val (.int (1 : Int32)), .val (.int (u1.toInt8.toInt32)), .val (.int (u2.toInt8.toInt32)), .val (.int (u3.toInt8.toInt32)), .val (.int (u4.toInt8.toInt32)), .val (.ref b41), .val (.int (0 : Int32))] [(.ref b41)]))
      obtain ⟨_, _, ⟨T45, L45, k45, n45⟩, -, X45, ⟨Lc45, hQ45, l45, y45, z45⟩, st45⟩ := Jvm.LawKit.callS X43 hx (y := (⟨"quillvax/mllp/Mllp", "carries", "([B)Z"⟩ : MethodName)) hown (mvT hZ (hw _ (List.mem_of_getElem? (i := 2) rfl))) (mvT hZ (hw _ (List.mem_of_getElem? (i := 3) rfl))) (mvT hZ (hw _ (List.mem_of_getElem? (i := 4) rfl))) (mvT hZ (hw _ (List.mem_of_getElem? (i := 5) rfl))) (by decide) (backOf (W := 0) (rm1_1 l Z a0 hw [] b41 k41 (u1.toInt8.toInt32) h42 n0 Z42 V42') hZ (hw _ (List.mem_of_getElem? (i := 5) rfl)) (hw _ (List.mem_of_getElem? (i := 4) rfl)) (by decide) (by decide)) (g := (mkF m 143 #[.val (.int u0), .val (.int u1), .val (.int u2), .val (.int u3), .val (.int u4), .val (.int (1 : Int32)), .val (.int (u1.toInt8.toInt32)), .val (.int (u2.toInt8.toInt32)), .val (.int (u3.toInt8.toInt32)), .val (.int (u4.toInt8.toInt32)), .val (.ref b41), .val (.int (0 : Int32))] [(.ref b41)])) rfl (by rw [hml]; rfl) (argsL := [(.ref b41)]) (rest := []) (lenOf own_pd1 rfl) rfl (by show 2 * 0 + _ ≤ _; exact Nat.le_of_eq rfl) (hb hby at_143) (fun _ _ => ⟨rfl, eq43, (by decide : 1 + 0 ≤ _), (by decide : 1 + 0 ≤ _)⟩)
      dsimp only [Pt.U, Pt.locs, Pt.cells, Pt.slots] at X45 l45 y45 z45 st45 hQ45
      subst l45 y45 z45
      obtain ⟨rfl, Nq45, eq45⟩ := hQ45
      have N45 := Fr.app N43 Nq45
      refine own_st st45 ?_
      show own_Go _ _ _ _ (T45.setTop (mkF m 146 #[.val (.int u0), .val (.int u1), .val (.int u2), .val (.int u3), .val (.int u4), .val (.int (1 : Int32)), .val (.int (u1.toInt8.toInt32)), .val (.int (u2.toInt8.toInt32)), .val (.int (u3.toInt8.toInt32)), .val (.int (u4.toInt8.toInt32)), .val (.ref b41), .val (.int (0 : Int32))] [(.int (own_ca1 (u1.toInt8.toInt32)))]))
      refine own_st (fun _ k => XS.iload X45.here hx rfl (hb hby at_146) rfl k) ?_
      show own_Go _ _ _ _ (T45.setTop (mkF m 148 #[.val (.int u0), .val (.int u1), .val (.int u2), .val (.int u3), .val (.int u4), .val (.int (1 : Int32)), .val (.int (u1.toInt8.toInt32)), .val (.int (u2.toInt8.toInt32)), .val (.int (u3.toInt8.toInt32)), .val (.int (u4.toInt8.toInt32)), .val (.ref b41), .val (.int (0 : Int32))] [(.int (0 : Int32)), (.int (own_ca1 (u1.toInt8.toInt32)))]))
      refine own_st (fun _ k => XS.icmpNo X45.here hx rfl (hb hby at_148) rfl (teq (by
          unfold own_ca1
          rcases (own_cl_iff u1).mp hc44 with z | z
          · rw [if_pos z]
          · rw [if_neg (by rw [z]; decide), if_pos z])).2 k) ?_
      show own_Go _ _ _ _ (T45.setTop (mkF m 151 #[.val (.int u0), .val (.int u1), .val (.int u2), .val (.int u3), .val (.int u4), .val (.int (1 : Int32)), .val (.int (u1.toInt8.toInt32)), .val (.int (u2.toInt8.toInt32)), .val (.int (u3.toInt8.toInt32)), .val (.int (u4.toInt8.toInt32)), .val (.ref b41), .val (.int (0 : Int32))] []))
      refine own_st (fun _ k => XS.iconst X45.here hx rfl (hb hby at_151) k) ?_
      show own_Go _ _ _ _ (T45.setTop (mkF m 152 #[.val (.int u0), .val (.int u1), .val (.int u2), .val (.int u3), .val (.int u4), .val (.int (1 : Int32)), .val (.int (u1.toInt8.toInt32)), .val (.int (u2.toInt8.toInt32)), .val (.int (u3.toInt8.toInt32)), .val (.int (u4.toInt8.toInt32)), .val (.ref b41), .val (.int (0 : Int32))] [(.int (1 : Int32))]))
      refine own_st (fun _ k => XS.goto X45.here hx rfl (pc0 := 152) (pc' := 156) rfl (hb hby at_152) (by decide) (by decide) k) ?_
      show own_Go _ _ _ _ (T45.setTop (mkF m 156 #[.val (.int u0), .val (.int u1), .val (.int u2), .val (.int u3), .val (.int u4), .val (.int (1 : Int32)), .val (.int (u1.toInt8.toInt32)), .val (.int (u2.toInt8.toInt32)), .val (.int (u3.toInt8.toInt32)), .val (.int (u4.toInt8.toInt32)), .val (.ref b41), .val (.int (0 : Int32))] [(.int (1 : Int32))]))
      obtain ⟨fs, hr, hrun, hended, hW, hsame⟩ := X45.leave (v := some (.int (1 : Int32))) (fun h => by rw [Bd.returns] at h; cases h)
      refine own_out (retN X45 hx (t := .boolean) Bd.returns (by simp) (hb hby at_156) hr) ⟨hrun, hended, _, _, rfl, ?_, ⟨_, rfl⟩, hW, hsame.mono (by decide) (by decide)⟩
      show Q0 Z u0 u1 u2 u3 u4 h0 n0 _ T45.heap _
      exact ⟨rfl, N45⟩
    · skip
      refine own_st (fun _ k => XS.ifNo X43.here hx rfl (hb hby at_89) rfl ((if0 _ _).trans (feq hc44).1) k) ?_
      show own_Go _ _ _ _ (T43.setTop (mkF m 92 #[.val (.int u0), .val (.int u1), .val (.int u2), .val (.int u3), .val (.int u4), .val (.int (1 : Int32)), .val (.int (u1.toInt8.toInt32)), .val (.int (u2.toInt8.toInt32)), .val (.int (u3.toInt8.toInt32)), .val (.int (u4.toInt8.toInt32)), .val (.ref b41), .unset] []))
      refine own_st (fun _ k => XS.iload X43.here hx rfl (hb hby at_92) rfl k) ?_
      show own_Go _ _ _ _ (T43.setTop (mkF m 94 #[.val (.int u0), .val (.int u1), .val (.int u2), .val (.int u3), .val (.int u4), .val (.int (1 : Int32)), .val (.int (u1.toInt8.toInt32)), .val (.int (u2.toInt8.toInt32)), .val (.int (u3.toInt8.toInt32)), .val (.int (u4.toInt8.toInt32)), .val (.ref b41), .unset] [(.int (1 : Int32))]))
      refine own_st (fun _ k => XS.iconst X43.here hx rfl (hb hby at_94) k) ?_
      show own_Go _ _ _ _ (T43.setTop (mkF m 95 #[.val (.int u0), .val (.int u1), .val (.int u2), .val (.int u3), .val (.int u4), .val (.int (1 : Int32)), .val (.int (u1.toInt8.toInt32)), .val (.int (u2.toInt8.toInt32)), .val (.int (u3.toInt8.toInt32)), .val (.int (u4.toInt8.toInt32)), .val (.ref b41), .unset] [(.int (2 : Int32)), (.int (1 : Int32))]))
      refine own_st (fun _ k => XS.icmpYes X43.here hx rfl (pc0 := 95) (pc' := 106) rfl (hb hby at_95) rfl (tlt (by decide : ((1 : Int32) < (2 : Int32)))).1 (by decide) (by decide) k) ?_
      show own_Go _ _ _ _ (T43.setTop (mkF m 106 #[.val (.int u0), .val (.int u1), .val (.int u2), .val (.int u3), .val (.int u4), .val (.int (1 : Int32)), .val (.int (u1.toInt8.toInt32)), .val (.int (u2.toInt8.toInt32)), .val (.int (u3.toInt8.toInt32)), .val (.int (u4.toInt8.toInt32)), .val (.ref b41), .unset] []))
      refine own_st (fun _ k => XS.iload X43.here hx rfl (hb hby at_106) rfl k) ?_
      show own_Go _ _ _ _ (T43.setTop (mkF m 108 #[.val (.int u0), .val (.int u1), .val (.int u2), .val (.int u3), .val (.int u4), .val (.int (1 : Int32)), .val (.int (u1.toInt8.toInt32)), .val (.int (u2.toInt8.toInt32)), .val (.int (u3.toInt8.toInt32)), .val (.int (u4.toInt8.toInt32)), .val (.ref b41), .unset] [(.int (1 : Int32))]))
      refine own_st (fun _ k => XS.iconst X43.here hx rfl (hb hby at_108) k) ?_
      show own_Go _ _ _ _ (T43.setTop (mkF m 109 #[.val (.int u0), .val (.int u1), .val (.int u2), .val (.int u3), .val (.int u4), .val (.int (1 : Int32)), .val (.int (u1.toInt8.toInt32)), .val (.int (u2.toInt8.toInt32)), .val (.int (u3.toInt8.toInt32)), .val (.int (u4.toInt8.toInt32)), .val (.ref b41), .unset] [(.int (3 : Int32)), (.int (1 : Int32))]))
      refine own_st (fun _ k => XS.icmpYes X43.here hx rfl (pc0 := 109) (pc' := 120) rfl (hb hby at_109) rfl (tlt (by decide : ((1 : Int32) < (3 : Int32)))).1 (by decide) (by decide) k) ?_
      show own_Go _ _ _ _ (T43.setTop (mkF m 120 #[.val (.int u0), .val (.int u1), .val (.int u2), .val (.int u3), .val (.int u4), .val (.int (1 : Int32)), .val (.int (u1.toInt8.toInt32)), .val (.int (u2.toInt8.toInt32)), .val (.int (u3.toInt8.toInt32)), .val (.int (u4.toInt8.toInt32)), .val (.ref b41), .unset] []))
      refine own_st (fun _ k => XS.iload X43.here hx rfl (hb hby at_120) rfl k) ?_
      show own_Go _ _ _ _ (T43.setTop (mkF m 122 #[.val (.int u0), .val (.int u1), .val (.int u2), .val (.int u3), .val (.int u4), .val (.int (1 : Int32)), .val (.int (u1.toInt8.toInt32)), .val (.int (u2.toInt8.toInt32)), .val (.int (u3.toInt8.toInt32)), .val (.int (u4.toInt8.toInt32)), .val (.ref b41), .unset] [(.int (1 : Int32))]))
      refine own_st (fun _ k => XS.iconst X43.here hx rfl (hb hby at_122) k) ?_
      show own_Go _ _ _ _ (T43.setTop (mkF m 123 #[.val (.int u0), .val (.int u1), .val (.int u2), .val (.int u3), .val (.int u4), .val (.int (1 : Int32)), .val (.int (u1.toInt8.toInt32)), .val (.int (u2.toInt8.toInt32)), .val (.int (u3.toInt8.toInt32)), .val (.int (u4.toInt8.toInt32)), .val (.ref b41), .unset] [(.int (4 : Int32)), (.int (1 : Int32))]))
      refine own_st (fun _ k => XS.icmpYes X43.here hx rfl (pc0 := 123) (pc' := 134) rfl (hb hby at_123) rfl (tlt (by decide : ((1 : Int32) < (4 : Int32)))).1 (by decide) (by decide) k) ?_
      show own_Go _ _ _ _ (T43.setTop (mkF m 134 #[.val (.int u0), .val (.int u1), .val (.int u2), .val (.int u3), .val (.int u4), .val (.int (1 : Int32)), .val (.int (u1.toInt8.toInt32)), .val (.int (u2.toInt8.toInt32)), .val (.int (u3.toInt8.toInt32)), .val (.int (u4.toInt8.toInt32)), .val (.ref b41), .unset] []))
      refine own_st (fun _ k => XS.iconst X43.here hx rfl (hb hby at_134) k) ?_
      show own_Go _ _ _ _ (T43.setTop (mkF m 135 #[.val (.int u0), .val (.int u1), .val (.int u2), .val (.int u3), .val (.int u4), .val (.int (1 : Int32)), .val (.int (u1.toInt8.toInt32)), .val (.int (u2.toInt8.toInt32)), .val (.int (u3.toInt8.toInt32)), .val (.int (u4.toInt8.toInt32)), .val (.ref b41), .unset] [(.int (1 : Int32))]))
      refine own_st (fun _ k => XS.goto X43.here hx rfl (pc0 := 135) (pc' := 139) rfl (hb hby at_135) (by decide) (by decide) k) ?_
      show own_Go _ _ _ _ (T43.setTop (mkF m 139 #[.val (.int u0), .val (.int u1), .val (.int u2), .val (.int u3), .val (.int u4), .val (.int (1 : Int32)), .val (.int (u1.toInt8.toInt32)), .val (.int (u2.toInt8.toInt32)), .val (.int (u3.toInt8.toInt32)), .val (.int (u4.toInt8.toInt32)), .val (.ref b41), .unset] [(.int (1 : Int32))]))
      refine own_st (fun _ k => XS.istore X43.here hx rfl (hb hby at_139) rfl (l' := #[.val (.int u0), .val (.int u1), .val (.int u2), .val (.int u3), .val (.int u4), .val (.int (1 : Int32)), .val (.int (u1.toInt8.toInt32)), .val (.int (u2.toInt8.toInt32)), .val (.int (u3.toInt8.toInt32)), .val (.int (u4.toInt8.toInt32)), .val (.ref b41), .val (.int (1 : Int32))]) rfl k) ?_
      show own_Go _ _ _ _ (T43.setTop (mkF m 141 #[.val (.int u0), .val (.int u1), .val (.int u2), .val (.int u3), .val (.int u4), .val (.int (1 : Int32)), .val (.int (u1.toInt8.toInt32)), .val (.int (u2.toInt8.toInt32)), .val (.int (u3.toInt8.toInt32)), .val (.int (u4.toInt8.toInt32)), .val (.ref b41), .val (.int (1 : Int32))] []))
      refine own_st (fun _ k => XS.aload X43.here hx rfl (hb hby at_141) rfl rfl k) ?_
      show own_Go _ _ _ _ (T43.setTop (mkF m 143 #[.val (.int u0), .val (.int u1), .val (.int u2), .val (.int u3), .val (.int u4), .val (.int (1 : Int32)), .val (.int (u1.toInt8.toInt32)), .val (.int (u2.toInt8.toInt32)), .val (.int (u3.toInt8.toInt32)), .val (.int (u4.toInt8.toInt32)), .val (.ref b41), .val (.int (1 : Int32))] [(.ref b41)]))
      obtain ⟨_, _, ⟨T46, L46, k46, n46⟩, -, X46, ⟨Lc46, hQ46, l46, y46, z46⟩, st46⟩ := Jvm.LawKit.callS X43 hx (y := (⟨"quillvax/mllp/Mllp", "carries", "([B)Z"⟩ : MethodName)) hown (mvT hZ (hw _ (List.mem_of_getElem? (i := 2) rfl))) (mvT hZ (hw _ (List.mem_of_getElem? (i := 3) rfl))) (mvT hZ (hw _ (List.mem_of_getElem? (i := 4) rfl))) (mvT hZ (hw _ (List.mem_of_getElem? (i := 5) rfl))) (by decide) (backOf (W := 0) (rm1_1 l Z a0 hw [] b41 k41 (u1.toInt8.toInt32) h42 n0 Z42 V42') hZ (hw _ (List.mem_of_getElem? (i := 5) rfl)) (hw _ (List.mem_of_getElem? (i := 4) rfl)) (by decide) (by decide)) (g := (mkF m 143 #[.val (.int u0), .val (.int u1), .val (.int u2), .val (.int u3), .val (.int u4), .val (.int (1 : Int32)), .val (.int (u1.toInt8.toInt32)), .val (.int (u2.toInt8.toInt32)), .val (.int (u3.toInt8.toInt32)), .val (.int (u4.toInt8.toInt32)), .val (.ref b41), .val (.int (1 : Int32))] [(.ref b41)])) rfl (by rw [hml]; rfl) (argsL := [(.ref b41)]) (rest := []) (lenOf own_pd1 rfl) rfl (by show 2 * 0 + _ ≤ _; exact Nat.le_of_eq rfl) (hb hby at_143) (fun _ _ => ⟨rfl, eq43, (by decide : 1 + 0 ≤ _), (by decide : 1 + 0 ≤ _)⟩)
      dsimp only [Pt.U, Pt.locs, Pt.cells, Pt.slots] at X46 l46 y46 z46 st46 hQ46
      subst l46 y46 z46
      obtain ⟨rfl, Nq46, eq46⟩ := hQ46
      have N46 := Fr.app N43 Nq46
      refine own_st st46 ?_
      show own_Go _ _ _ _ (T46.setTop (mkF m 146 #[.val (.int u0), .val (.int u1), .val (.int u2), .val (.int u3), .val (.int u4), .val (.int (1 : Int32)), .val (.int (u1.toInt8.toInt32)), .val (.int (u2.toInt8.toInt32)), .val (.int (u3.toInt8.toInt32)), .val (.int (u4.toInt8.toInt32)), .val (.ref b41), .val (.int (1 : Int32))] [(.int (own_ca1 (u1.toInt8.toInt32)))]))
      refine own_st (fun _ k => XS.iload X46.here hx rfl (hb hby at_146) rfl k) ?_
      show own_Go _ _ _ _ (T46.setTop (mkF m 148 #[.val (.int u0), .val (.int u1), .val (.int u2), .val (.int u3), .val (.int u4), .val (.int (1 : Int32)), .val (.int (u1.toInt8.toInt32)), .val (.int (u2.toInt8.toInt32)), .val (.int (u3.toInt8.toInt32)), .val (.int (u4.toInt8.toInt32)), .val (.ref b41), .val (.int (1 : Int32))] [(.int (1 : Int32)), (.int (own_ca1 (u1.toInt8.toInt32)))]))
      refine own_st (fun _ k => XS.icmpNo X46.here hx rfl (hb hby at_148) rfl (teq (by unfold own_ca1; rw [if_neg (own_no u1 hc44).1, if_neg (own_no u1 hc44).2])).2 k) ?_
      show own_Go _ _ _ _ (T46.setTop (mkF m 151 #[.val (.int u0), .val (.int u1), .val (.int u2), .val (.int u3), .val (.int u4), .val (.int (1 : Int32)), .val (.int (u1.toInt8.toInt32)), .val (.int (u2.toInt8.toInt32)), .val (.int (u3.toInt8.toInt32)), .val (.int (u4.toInt8.toInt32)), .val (.ref b41), .val (.int (1 : Int32))] []))
      refine own_st (fun _ k => XS.iconst X46.here hx rfl (hb hby at_151) k) ?_
      show own_Go _ _ _ _ (T46.setTop (mkF m 152 #[.val (.int u0), .val (.int u1), .val (.int u2), .val (.int u3), .val (.int u4), .val (.int (1 : Int32)), .val (.int (u1.toInt8.toInt32)), .val (.int (u2.toInt8.toInt32)), .val (.int (u3.toInt8.toInt32)), .val (.int (u4.toInt8.toInt32)), .val (.ref b41), .val (.int (1 : Int32))] [(.int (1 : Int32))]))
      refine own_st (fun _ k => XS.goto X46.here hx rfl (pc0 := 152) (pc' := 156) rfl (hb hby at_152) (by decide) (by decide) k) ?_
      show own_Go _ _ _ _ (T46.setTop (mkF m 156 #[.val (.int u0), .val (.int u1), .val (.int u2), .val (.int u3), .val (.int u4), .val (.int (1 : Int32)), .val (.int (u1.toInt8.toInt32)), .val (.int (u2.toInt8.toInt32)), .val (.int (u3.toInt8.toInt32)), .val (.int (u4.toInt8.toInt32)), .val (.ref b41), .val (.int (1 : Int32))] [(.int (1 : Int32))]))
      obtain ⟨fs, hr, hrun, hended, hW, hsame⟩ := X46.leave (v := some (.int (1 : Int32))) (fun h => by rw [Bd.returns] at h; cases h)
      refine own_out (retN X46 hx (t := .boolean) Bd.returns (by simp) (hb hby at_156) hr) ⟨hrun, hended, _, _, rfl, ?_, ⟨_, rfl⟩, hW, hsame.mono (by decide) (by decide)⟩
      show Q0 Z u0 u1 u2 u3 u4 h0 n0 _ T46.heap _
      exact ⟨rfl, N46⟩
  · skip
    rw [hs38]
    show own_Go _ _ _ _ (s₁.setTop (mkF m 8 #[.val (.int u0), .val (.int u1), .val (.int u2), .val (.int u3), .val (.int u4), .val (.int (2 : Int32)), .unset, .unset, .unset, .unset, .unset, .unset] []))
    refine own_st (fun _ k => XS.iloadN X0.here hx rfl (hb hby at_8) rfl k) ?_
    show own_Go _ _ _ _ (s₁.setTop (mkF m 9 #[.val (.int u0), .val (.int u1), .val (.int u2), .val (.int u3), .val (.int u4), .val (.int (2 : Int32)), .unset, .unset, .unset, .unset, .unset, .unset] [(.int u1)]))
    refine own_st (fun _ k => XS.i2b X0.here hx rfl (hb hby at_9) rfl k) ?_
    show own_Go _ _ _ _ (s₁.setTop (mkF m 10 #[.val (.int u0), .val (.int u1), .val (.int u2), .val (.int u3), .val (.int u4), .val (.int (2 : Int32)), .unset, .unset, .unset, .unset, .unset, .unset] [(.int (u1.toInt8.toInt32))]))
    refine own_st (fun _ k => XS.istore X0.here hx rfl (hb hby at_10) rfl (l' := #[.val (.int u0), .val (.int u1), .val (.int u2), .val (.int u3), .val (.int u4), .val (.int (2 : Int32)), .val (.int (u1.toInt8.toInt32)), .unset, .unset, .unset, .unset, .unset]) rfl k) ?_
    show own_Go _ _ _ _ (s₁.setTop (mkF m 12 #[.val (.int u0), .val (.int u1), .val (.int u2), .val (.int u3), .val (.int u4), .val (.int (2 : Int32)), .val (.int (u1.toInt8.toInt32)), .unset, .unset, .unset, .unset, .unset] []))
    refine own_st (fun _ k => XS.iloadN X0.here hx rfl (hb hby at_12) rfl k) ?_
    show own_Go _ _ _ _ (s₁.setTop (mkF m 13 #[.val (.int u0), .val (.int u1), .val (.int u2), .val (.int u3), .val (.int u4), .val (.int (2 : Int32)), .val (.int (u1.toInt8.toInt32)), .unset, .unset, .unset, .unset, .unset] [(.int u2)]))
    refine own_st (fun _ k => XS.i2b X0.here hx rfl (hb hby at_13) rfl k) ?_
    show own_Go _ _ _ _ (s₁.setTop (mkF m 14 #[.val (.int u0), .val (.int u1), .val (.int u2), .val (.int u3), .val (.int u4), .val (.int (2 : Int32)), .val (.int (u1.toInt8.toInt32)), .unset, .unset, .unset, .unset, .unset] [(.int (u2.toInt8.toInt32))]))
    refine own_st (fun _ k => XS.istore X0.here hx rfl (hb hby at_14) rfl (l' := #[.val (.int u0), .val (.int u1), .val (.int u2), .val (.int u3), .val (.int u4), .val (.int (2 : Int32)), .val (.int (u1.toInt8.toInt32)), .val (.int (u2.toInt8.toInt32)), .unset, .unset, .unset, .unset]) rfl k) ?_
    show own_Go _ _ _ _ (s₁.setTop (mkF m 16 #[.val (.int u0), .val (.int u1), .val (.int u2), .val (.int u3), .val (.int u4), .val (.int (2 : Int32)), .val (.int (u1.toInt8.toInt32)), .val (.int (u2.toInt8.toInt32)), .unset, .unset, .unset, .unset] []))
    refine own_st (fun _ k => XS.iloadN X0.here hx rfl (hb hby at_16) rfl k) ?_
    show own_Go _ _ _ _ (s₁.setTop (mkF m 17 #[.val (.int u0), .val (.int u1), .val (.int u2), .val (.int u3), .val (.int u4), .val (.int (2 : Int32)), .val (.int (u1.toInt8.toInt32)), .val (.int (u2.toInt8.toInt32)), .unset, .unset, .unset, .unset] [(.int u3)]))
    refine own_st (fun _ k => XS.i2b X0.here hx rfl (hb hby at_17) rfl k) ?_
    show own_Go _ _ _ _ (s₁.setTop (mkF m 18 #[.val (.int u0), .val (.int u1), .val (.int u2), .val (.int u3), .val (.int u4), .val (.int (2 : Int32)), .val (.int (u1.toInt8.toInt32)), .val (.int (u2.toInt8.toInt32)), .unset, .unset, .unset, .unset] [(.int (u3.toInt8.toInt32))]))
    refine own_st (fun _ k => XS.istore X0.here hx rfl (hb hby at_18) rfl (l' := #[.val (.int u0), .val (.int u1), .val (.int u2), .val (.int u3), .val (.int u4), .val (.int (2 : Int32)), .val (.int (u1.toInt8.toInt32)), .val (.int (u2.toInt8.toInt32)), .val (.int (u3.toInt8.toInt32)), .unset, .unset, .unset]) rfl k) ?_
    show own_Go _ _ _ _ (s₁.setTop (mkF m 20 #[.val (.int u0), .val (.int u1), .val (.int u2), .val (.int u3), .val (.int u4), .val (.int (2 : Int32)), .val (.int (u1.toInt8.toInt32)), .val (.int (u2.toInt8.toInt32)), .val (.int (u3.toInt8.toInt32)), .unset, .unset, .unset] []))
    refine own_st (fun _ k => XS.iload X0.here hx rfl (hb hby at_20) rfl k) ?_
    show own_Go _ _ _ _ (s₁.setTop (mkF m 22 #[.val (.int u0), .val (.int u1), .val (.int u2), .val (.int u3), .val (.int u4), .val (.int (2 : Int32)), .val (.int (u1.toInt8.toInt32)), .val (.int (u2.toInt8.toInt32)), .val (.int (u3.toInt8.toInt32)), .unset, .unset, .unset] [(.int u4)]))
    refine own_st (fun _ k => XS.i2b X0.here hx rfl (hb hby at_22) rfl k) ?_
    show own_Go _ _ _ _ (s₁.setTop (mkF m 23 #[.val (.int u0), .val (.int u1), .val (.int u2), .val (.int u3), .val (.int u4), .val (.int (2 : Int32)), .val (.int (u1.toInt8.toInt32)), .val (.int (u2.toInt8.toInt32)), .val (.int (u3.toInt8.toInt32)), .unset, .unset, .unset] [(.int (u4.toInt8.toInt32))]))
    refine own_st (fun _ k => XS.istore X0.here hx rfl (hb hby at_23) rfl (l' := #[.val (.int u0), .val (.int u1), .val (.int u2), .val (.int u3), .val (.int u4), .val (.int (2 : Int32)), .val (.int (u1.toInt8.toInt32)), .val (.int (u2.toInt8.toInt32)), .val (.int (u3.toInt8.toInt32)), .val (.int (u4.toInt8.toInt32)), .unset, .unset]) rfl k) ?_
    show own_Go _ _ _ _ (s₁.setTop (mkF m 25 #[.val (.int u0), .val (.int u1), .val (.int u2), .val (.int u3), .val (.int u4), .val (.int (2 : Int32)), .val (.int (u1.toInt8.toInt32)), .val (.int (u2.toInt8.toInt32)), .val (.int (u3.toInt8.toInt32)), .val (.int (u4.toInt8.toInt32)), .unset, .unset] []))
    refine own_st (fun _ k => XS.iload X0.here hx rfl (hb hby at_25) rfl k) ?_
    show own_Go _ _ _ _ (s₁.setTop (mkF m 27 #[.val (.int u0), .val (.int u1), .val (.int u2), .val (.int u3), .val (.int u4), .val (.int (2 : Int32)), .val (.int (u1.toInt8.toInt32)), .val (.int (u2.toInt8.toInt32)), .val (.int (u3.toInt8.toInt32)), .val (.int (u4.toInt8.toInt32)), .unset, .unset] [(.int (2 : Int32))]))
    obtain ⟨T47, h47, k47, X47, e47, E47, A47, st47⟩ := newP X0 hx hZ (hw _ (List.mem_of_getElem? (i := 1) rfl)) e0 (g := (mkF m 27 #[.val (.int u0), .val (.int u1), .val (.int u2), .val (.int u3), .val (.int u4), .val (.int (2 : Int32)), .val (.int (u1.toInt8.toInt32)), .val (.int (u2.toInt8.toInt32)), .val (.int (u3.toInt8.toInt32)), .val (.int (u4.toInt8.toInt32)), .unset, .unset] [(.int (2 : Int32))])) rfl (hb hby at_27) rfl (by decide : ¬ ((2 : Int32) < (0 : Int32))) (cap := 2) (by decide : ((2 : Int32)).toNatClampNeg ≤ 2) (by decide) (by decide) (by decide)
    obtain ⟨b47, g47⟩ : ∃ z, z = h0.size := ⟨_, rfl⟩
    rw [← g47] at A47 st47
    refine own_st st47 ?_
    have Z47 : n0 ≤ h47.size := Nat.le_trans Z0 E47.1
    have gnb47 : n0 ≤ b47 := Nat.le_trans Z0 (Nat.le_of_eq g47.symm)
    have gkb47 : h0.size ≤ b47 := Nat.le_trans K0.1 (Nat.le_of_eq g47.symm)
    have K47 : Keep h0 h47 [] := K0.ext E47
    have V47 : Arv Z h47 b47 k47 .byte (2 : Int32) [(.int (0 : Int32)), (.int (0 : Int32))] (.int (0 : Int32)) := (Arv.new A47 (by decide : ¬ ((2 : Int32) < (0 : Int32)))).pad (pad_rep [] (.int (0 : Int32)) 2)
    show own_Go _ _ _ _ (T47.setTop (mkF m 29 #[.val (.int u0), .val (.int u1), .val (.int u2), .val (.int u3), .val (.int u4), .val (.int (2 : Int32)), .val (.int (u1.toInt8.toInt32)), .val (.int (u2.toInt8.toInt32)), .val (.int (u3.toInt8.toInt32)), .val (.int (u4.toInt8.toInt32)), .unset, .unset] [(.ref b47)]))
    refine own_st (fun _ k => XS.astore X47.here hx rfl (hb hby at_29) rfl rfl (l' := #[.val (.int u0), .val (.int u1), .val (.int u2), .val (.int u3), .val (.int u4), .val (.int (2 : Int32)), .val (.int (u1.toInt8.toInt32)), .val (.int (u2.toInt8.toInt32)), .val (.int (u3.toInt8.toInt32)), .val (.int (u4.toInt8.toInt32)), .val (.ref b47), .unset]) rfl k) ?_
    show own_Go _ _ _ _ (T47.setTop (mkF m 31 #[.val (.int u0), .val (.int u1), .val (.int u2), .val (.int u3), .val (.int u4), .val (.int (2 : Int32)), .val (.int (u1.toInt8.toInt32)), .val (.int (u2.toInt8.toInt32)), .val (.int (u3.toInt8.toInt32)), .val (.int (u4.toInt8.toInt32)), .val (.ref b47), .unset] []))
    refine own_st (fun _ k => XS.iload X47.here hx rfl (hb hby at_31) rfl k) ?_
    show own_Go _ _ _ _ (T47.setTop (mkF m 33 #[.val (.int u0), .val (.int u1), .val (.int u2), .val (.int u3), .val (.int u4), .val (.int (2 : Int32)), .val (.int (u1.toInt8.toInt32)), .val (.int (u2.toInt8.toInt32)), .val (.int (u3.toInt8.toInt32)), .val (.int (u4.toInt8.toInt32)), .val (.ref b47), .unset] [(.int (2 : Int32))]))
    refine own_st (fun _ k => XS.ifNo X47.here hx rfl (hb hby at_33) rfl ((if0 _ _).trans (tlt (by decide : ((0 : Int32) < (2 : Int32)))).2.2.2) k) ?_
    show own_Go _ _ _ _ (T47.setTop (mkF m 36 #[.val (.int u0), .val (.int u1), .val (.int u2), .val (.int u3), .val (.int u4), .val (.int (2 : Int32)), .val (.int (u1.toInt8.toInt32)), .val (.int (u2.toInt8.toInt32)), .val (.int (u3.toInt8.toInt32)), .val (.int (u4.toInt8.toInt32)), .val (.ref b47), .unset] []))
    refine own_st (fun _ k => XS.aload X47.here hx rfl (hb hby at_36) rfl rfl k) ?_
    show own_Go _ _ _ _ (T47.setTop (mkF m 38 #[.val (.int u0), .val (.int u1), .val (.int u2), .val (.int u3), .val (.int u4), .val (.int (2 : Int32)), .val (.int (u1.toInt8.toInt32)), .val (.int (u2.toInt8.toInt32)), .val (.int (u3.toInt8.toInt32)), .val (.int (u4.toInt8.toInt32)), .val (.ref b47), .unset] [(.ref b47)]))
    refine own_st (fun _ k => XS.iconst X47.here hx rfl (hb hby at_38) k) ?_
    show own_Go _ _ _ _ (T47.setTop (mkF m 39 #[.val (.int u0), .val (.int u1), .val (.int u2), .val (.int u3), .val (.int u4), .val (.int (2 : Int32)), .val (.int (u1.toInt8.toInt32)), .val (.int (u2.toInt8.toInt32)), .val (.int (u3.toInt8.toInt32)), .val (.int (u4.toInt8.toInt32)), .val (.ref b47), .unset] [(.int (0 : Int32)), (.ref b47)]))
    refine own_st (fun _ k => XS.iload X47.here hx rfl (hb hby at_39) rfl k) ?_
    show own_Go _ _ _ _ (T47.setTop (mkF m 41 #[.val (.int u0), .val (.int u1), .val (.int u2), .val (.int u3), .val (.int u4), .val (.int (2 : Int32)), .val (.int (u1.toInt8.toInt32)), .val (.int (u2.toInt8.toInt32)), .val (.int (u3.toInt8.toInt32)), .val (.int (u4.toInt8.toInt32)), .val (.ref b47), .unset] [(.int (u1.toInt8.toInt32)), (.int (0 : Int32)), (.ref b47)]))
    obtain ⟨cl48, Ar48, Kd48, Sz48, Nn48, Hs48, Gs48⟩ := id V47
    obtain ⟨T48, h48, X48, e48, W48, st48⟩ := stB X47 hx hZ e47 Ar48 (j := (0 : Int32)) (inb_of Sz48 ⟨(by decide : ¬ ((0 : Int32) < (0 : Int32))), (by decide : (0 : Int32) < (2 : Int32))⟩) (g := (mkF m 41 #[.val (.int u0), .val (.int u1), .val (.int u2), .val (.int u3), .val (.int u4), .val (.int (2 : Int32)), .val (.int (u1.toInt8.toInt32)), .val (.int (u2.toInt8.toInt32)), .val (.int (u3.toInt8.toInt32)), .val (.int (u4.toInt8.toInt32)), .val (.ref b47), .unset] [(.int (u1.toInt8.toInt32)), (.int (0 : Int32)), (.ref b47)])) rfl rfl (hb hby at_41)
    refine own_st st48 ?_
    have V48 := Arv.set Ar48 Kd48 Sz48 Nn48 Hs48 Gs48 (fits_nar_byte _) W48 0 rfl (Nat.le_of_ble_eq_true rfl)
    have V48' : Arv Z h48 b47 k47 .byte (2 : Int32) [(.int (u1.toInt8.toInt32)), (.int (0 : Int32))] (.int (0 : Int32)) := by have q := V48; rw [own_narB] at q; exact q
    have Z48 : n0 ≤ h48.size := Nat.le_trans Z47 (Nat.le_of_eq W48.size.symm)
    have N48 := Fr.snoc X48 N0 gnb47
    have K48 : Keep h0 h48 [] := K47.wr W48 (Or.inr gkb47)
    show own_Go _ _ _ _ (T48.setTop (mkF m 42 #[.val (.int u0), .val (.int u1), .val (.int u2), .val (.int u3), .val (.int u4), .val (.int (2 : Int32)), .val (.int (u1.toInt8.toInt32)), .val (.int (u2.toInt8.toInt32)), .val (.int (u3.toInt8.toInt32)), .val (.int (u4.toInt8.toInt32)), .val (.ref b47), .unset] []))
    refine own_st (fun _ k => XS.iload X48.here hx rfl (hb hby at_42) rfl k) ?_
    show own_Go _ _ _ _ (T48.setTop (mkF m 44 #[.val (.int u0), .val (.int u1), .val (.int u2), .val (.int u3), .val (.int u4), .val (.int (2 : Int32)), .val (.int (u1.toInt8.toInt32)), .val (.int (u2.toInt8.toInt32)), .val (.int (u3.toInt8.toInt32)), .val (.int (u4.toInt8.toInt32)), .val (.ref b47), .unset] [(.int (2 : Int32))]))
    refine own_st (fun _ k => XS.iconst X48.here hx rfl (hb hby at_44) k) ?_
    show own_Go _ _ _ _ (T48.setTop (mkF m 45 #[.val (.int u0), .val (.int u1), .val (.int u2), .val (.int u3), .val (.int u4), .val (.int (2 : Int32)), .val (.int (u1.toInt8.toInt32)), .val (.int (u2.toInt8.toInt32)), .val (.int (u3.toInt8.toInt32)), .val (.int (u4.toInt8.toInt32)), .val (.ref b47), .unset] [(.int (1 : Int32)), (.int (2 : Int32))]))
    refine own_st (fun _ k => XS.icmpNo X48.here hx rfl (hb hby at_45) rfl (tlt (by decide : ((1 : Int32) < (2 : Int32)))).2.2.2 k) ?_
    show own_Go _ _ _ _ (T48.setTop (mkF m 48 #[.val (.int u0), .val (.int u1), .val (.int u2), .val (.int u3), .val (.int u4), .val (.int (2 : Int32)), .val (.int (u1.toInt8.toInt32)), .val (.int (u2.toInt8.toInt32)), .val (.int (u3.toInt8.toInt32)), .val (.int (u4.toInt8.toInt32)), .val (.ref b47), .unset] []))
    refine own_st (fun _ k => XS.aload X48.here hx rfl (hb hby at_48) rfl rfl k) ?_
    show own_Go _ _ _ _ (T48.setTop (mkF m 50 #[.val (.int u0), .val (.int u1), .val (.int u2), .val (.int u3), .val (.int u4), .val (.int (2 : Int32)), .val (.int (u1.toInt8.toInt32)), .val (.int (u2.toInt8.toInt32)), .val (.int (u3.toInt8.toInt32)), .val (.int (u4.toInt8.toInt32)), .val (.ref b47), .unset] [(.ref b47)]))
    refine own_st (fun _ k => XS.iconst X48.here hx rfl (hb hby at_50) k) ?_
    show own_Go _ _ _ _ (T48.setTop (mkF m 51 #[.val (.int u0), .val (.int u1), .val (.int u2), .val (.int u3), .val (.int u4), .val (.int (2 : Int32)), .val (.int (u1.toInt8.toInt32)), .val (.int (u2.toInt8.toInt32)), .val (.int (u3.toInt8.toInt32)), .val (.int (u4.toInt8.toInt32)), .val (.ref b47), .unset] [(.int (1 : Int32)), (.ref b47)]))
    refine own_st (fun _ k => XS.iload X48.here hx rfl (hb hby at_51) rfl k) ?_
    show own_Go _ _ _ _ (T48.setTop (mkF m 53 #[.val (.int u0), .val (.int u1), .val (.int u2), .val (.int u3), .val (.int u4), .val (.int (2 : Int32)), .val (.int (u1.toInt8.toInt32)), .val (.int (u2.toInt8.toInt32)), .val (.int (u3.toInt8.toInt32)), .val (.int (u4.toInt8.toInt32)), .val (.ref b47), .unset] [(.int (u2.toInt8.toInt32)), (.int (1 : Int32)), (.ref b47)]))
    obtain ⟨cl49, Ar49, Kd49, Sz49, Nn49, Hs49, Gs49⟩ := id V48'
    obtain ⟨T49, h49, X49, e49, W49, st49⟩ := stB X48 hx hZ e48 Ar49 (j := (1 : Int32)) (inb_of Sz49 ⟨(by decide : ¬ ((1 : Int32) < (0 : Int32))), (by decide : (1 : Int32) < (2 : Int32))⟩) (g := (mkF m 53 #[.val (.int u0), .val (.int u1), .val (.int u2), .val (.int u3), .val (.int u4), .val (.int (2 : Int32)), .val (.int (u1.toInt8.toInt32)), .val (.int (u2.toInt8.toInt32)), .val (.int (u3.toInt8.toInt32)), .val (.int (u4.toInt8.toInt32)), .val (.ref b47), .unset] [(.int (u2.toInt8.toInt32)), (.int (1 : Int32)), (.ref b47)])) rfl rfl (hb hby at_53)
    refine own_st st49 ?_
    have V49 := Arv.set Ar49 Kd49 Sz49 Nn49 Hs49 Gs49 (fits_nar_byte _) W49 1 rfl (Nat.le_of_ble_eq_true rfl)
    have V49' : Arv Z h49 b47 k47 .byte (2 : Int32) [(.int (u1.toInt8.toInt32)), (.int (u2.toInt8.toInt32))] (.int (0 : Int32)) := by have q := V49; rw [own_narB] at q; exact q
    have Z49 : n0 ≤ h49.size := Nat.le_trans Z48 (Nat.le_of_eq W49.size.symm)
    have N49 := Fr.snoc X49 N48 gnb47
    have K49 : Keep h0 h49 [] := K48.wr W49 (Or.inr gkb47)
    show own_Go _ _ _ _ (T49.setTop (mkF m 54 #[.val (.int u0), .val (.int u1), .val (.int u2), .val (.int u3), .val (.int u4), .val (.int (2 : Int32)), .val (.int (u1.toInt8.toInt32)), .val (.int (u2.toInt8.toInt32)), .val (.int (u3.toInt8.toInt32)), .val (.int (u4.toInt8.toInt32)), .val (.ref b47), .unset] []))
    refine own_st (fun _ k => XS.iload X49.here hx rfl (hb hby at_54) rfl k) ?_
    show own_Go _ _ _ _ (T49.setTop (mkF m 56 #[.val (.int u0), .val (.int u1), .val (.int u2), .val (.int u3), .val (.int u4), .val (.int (2 : Int32)), .val (.int (u1.toInt8.toInt32)), .val (.int (u2.toInt8.toInt32)), .val (.int (u3.toInt8.toInt32)), .val (.int (u4.toInt8.toInt32)), .val (.ref b47), .unset] [(.int (2 : Int32))]))
    refine own_st (fun _ k => XS.iconst X49.here hx rfl (hb hby at_56) k) ?_
    show own_Go _ _ _ _ (T49.setTop (mkF m 57 #[.val (.int u0), .val (.int u1), .val (.int u2), .val (.int u3), .val (.int u4), .val (.int (2 : Int32)), .val (.int (u1.toInt8.toInt32)), .val (.int (u2.toInt8.toInt32)), .val (.int (u3.toInt8.toInt32)), .val (.int (u4.toInt8.toInt32)), .val (.ref b47), .unset] [(.int (2 : Int32)), (.int (2 : Int32))]))
    refine own_st (fun _ k => XS.icmpYes X49.here hx rfl (pc0 := 57) (pc' := 66) rfl (hb hby at_57) rfl (flt (by decide : ¬ ((2 : Int32) < (2 : Int32)))).2.2.2 (by decide) (by decide) k) ?_
    show own_Go _ _ _ _ (T49.setTop (mkF m 66 #[.val (.int u0), .val (.int u1), .val (.int u2), .val (.int u3), .val (.int u4), .val (.int (2 : Int32)), .val (.int (u1.toInt8.toInt32)), .val (.int (u2.toInt8.toInt32)), .val (.int (u3.toInt8.toInt32)), .val (.int (u4.toInt8.toInt32)), .val (.ref b47), .unset] []))
    refine own_st (fun _ k => XS.iload X49.here hx rfl (hb hby at_66) rfl k) ?_
    show own_Go _ _ _ _ (T49.setTop (mkF m 68 #[.val (.int u0), .val (.int u1), .val (.int u2), .val (.int u3), .val (.int u4), .val (.int (2 : Int32)), .val (.int (u1.toInt8.toInt32)), .val (.int (u2.toInt8.toInt32)), .val (.int (u3.toInt8.toInt32)), .val (.int (u4.toInt8.toInt32)), .val (.ref b47), .unset] [(.int (2 : Int32))]))
    refine own_st (fun _ k => XS.iconst X49.here hx rfl (hb hby at_68) k) ?_
    show own_Go _ _ _ _ (T49.setTop (mkF m 69 #[.val (.int u0), .val (.int u1), .val (.int u2), .val (.int u3), .val (.int u4), .val (.int (2 : Int32)), .val (.int (u1.toInt8.toInt32)), .val (.int (u2.toInt8.toInt32)), .val (.int (u3.toInt8.toInt32)), .val (.int (u4.toInt8.toInt32)), .val (.ref b47), .unset] [(.int (3 : Int32)), (.int (2 : Int32))]))
    refine own_st (fun _ k => XS.icmpYes X49.here hx rfl (pc0 := 69) (pc' := 78) rfl (hb hby at_69) rfl (flt (by decide : ¬ ((3 : Int32) < (2 : Int32)))).2.2.2 (by decide) (by decide) k) ?_
    show own_Go _ _ _ _ (T49.setTop (mkF m 78 #[.val (.int u0), .val (.int u1), .val (.int u2), .val (.int u3), .val (.int u4), .val (.int (2 : Int32)), .val (.int (u1.toInt8.toInt32)), .val (.int (u2.toInt8.toInt32)), .val (.int (u3.toInt8.toInt32)), .val (.int (u4.toInt8.toInt32)), .val (.ref b47), .unset] []))
    refine own_st (fun _ k => XS.iload X49.here hx rfl (hb hby at_78) rfl k) ?_
    show own_Go _ _ _ _ (T49.setTop (mkF m 80 #[.val (.int u0), .val (.int u1), .val (.int u2), .val (.int u3), .val (.int u4), .val (.int (2 : Int32)), .val (.int (u1.toInt8.toInt32)), .val (.int (u2.toInt8.toInt32)), .val (.int (u3.toInt8.toInt32)), .val (.int (u4.toInt8.toInt32)), .val (.ref b47), .unset] [(.int (2 : Int32))]))
    refine own_st (fun _ k => XS.iconst X49.here hx rfl (hb hby at_80) k) ?_
    show own_Go _ _ _ _ (T49.setTop (mkF m 81 #[.val (.int u0), .val (.int u1), .val (.int u2), .val (.int u3), .val (.int u4), .val (.int (2 : Int32)), .val (.int (u1.toInt8.toInt32)), .val (.int (u2.toInt8.toInt32)), .val (.int (u3.toInt8.toInt32)), .val (.int (u4.toInt8.toInt32)), .val (.ref b47), .unset] [(.int (1 : Int32)), (.int (2 : Int32))]))
    refine own_st (fun _ k => XS.icmpNo X49.here hx rfl (hb hby at_81) rfl (flt (by decide : ¬ ((2 : Int32) < (1 : Int32)))).1 k) ?_
    show own_Go _ _ _ _ (T49.setTop (mkF m 84 #[.val (.int u0), .val (.int u1), .val (.int u2), .val (.int u3), .val (.int u4), .val (.int (2 : Int32)), .val (.int (u1.toInt8.toInt32)), .val (.int (u2.toInt8.toInt32)), .val (.int (u3.toInt8.toInt32)), .val (.int (u4.toInt8.toInt32)), .val (.ref b47), .unset] []))
    refine own_st (fun _ k => XS.iload X49.here hx rfl (hb hby at_84) rfl k) ?_
    show own_Go _ _ _ _ (T49.setTop (mkF m 86 #[.val (.int u0), .val (.int u1), .val (.int u2), .val (.int u3), .val (.int u4), .val (.int (2 : Int32)), .val (.int (u1.toInt8.toInt32)), .val (.int (u2.toInt8.toInt32)), .val (.int (u3.toInt8.toInt32)), .val (.int (u4.toInt8.toInt32)), .val (.ref b47), .unset] [(.int (u1.toInt8.toInt32))]))
    obtain ⟨_, _, ⟨T50, L50, k50, n50⟩, -, X50, ⟨Lc50, hQ50, l50, y50, z50⟩, st50⟩ := Jvm.LawKit.callS X49 hx (y := (⟨"quillvax/mllp/MllpCarriesPinLaw", "clean", "(B)Z"⟩ : MethodName)) hown (mvT hZ (hw _ (List.mem_of_getElem? (i := 6) rfl))) (mvT hZ (hw _ (List.mem_of_getElem? (i := 7) rfl))) (mvT hZ (hw _ (List.mem_of_getElem? (i := 8) rfl))) (mvT hZ (hw _ (List.mem_of_getElem? (i := 9) rfl))) (by decide) (backOf (W := 0) (rm2 l Z a0 hw [] (u1.toInt8.toInt32) h49 n0 Z49 ) hZ (hw _ (List.mem_of_getElem? (i := 9) rfl)) (hw _ (List.mem_of_getElem? (i := 8) rfl)) (by decide) (by decide)) (g := (mkF m 86 #[.val (.int u0), .val (.int u1), .val (.int u2), .val (.int u3), .val (.int u4), .val (.int (2 : Int32)), .val (.int (u1.toInt8.toInt32)), .val (.int (u2.toInt8.toInt32)), .val (.int (u3.toInt8.toInt32)), .val (.int (u4.toInt8.toInt32)), .val (.ref b47), .unset] [(.int (u1.toInt8.toInt32))])) rfl (by rw [hml]; rfl) (argsL := [(.int (u1.toInt8.toInt32))]) (rest := []) (lenOf own_pd0 rfl) rfl (by show 2 * 0 + _ ≤ _; exact Nat.le_of_eq rfl) (hb hby at_86) (fun _ _ => ⟨rfl, e49, (by decide : 1 + 0 ≤ _), (by decide : 2 + 0 ≤ _)⟩)
    dsimp only [Pt.U, Pt.locs, Pt.cells, Pt.slots] at X50 l50 y50 z50 st50 hQ50
    subst l50 y50 z50
    obtain ⟨rfl, Nq50, eq50⟩ := hQ50
    have N50 := Fr.app N49 Nq50
    refine own_st st50 ?_
    show own_Go _ _ _ _ (T50.setTop (mkF m 89 #[.val (.int u0), .val (.int u1), .val (.int u2), .val (.int u3), .val (.int u4), .val (.int (2 : Int32)), .val (.int (u1.toInt8.toInt32)), .val (.int (u2.toInt8.toInt32)), .val (.int (u3.toInt8.toInt32)), .val (.int (u4.toInt8.toInt32)), .val (.ref b47), .unset] [(.int (own_cl (u1.toInt8.toInt32)))]))
    by_cases hc51 : (own_cl (u1.toInt8.toInt32)) = (0 : Int32)
    · skip
      refine own_st (fun _ k => XS.ifYes X50.here hx rfl (pc0 := 89) (pc' := 138) rfl (hb hby at_89) rfl ((if0 _ _).trans (teq hc51).1) (by decide) (by decide) k) ?_
      show own_Go _ _ _ _ (T50.setTop (mkF m 138 #[.val (.int u0), .val (.int u1), .val (.int u2), .val (.int u3), .val (.int u4), .val (.int (2 : Int32)), .val (.int (u1.toInt8.toInt32)), .val (.int (u2.toInt8.toInt32)), .val (.int (u3.toInt8.toInt32)), .val (.int (u4.toInt8.toInt32)), .val (.ref b47), .unset] []))
      refine own_st (fun _ k => XS.iconst X50.here hx rfl (hb hby at_138) k) ?_
      show own_Go _ _ _ _ (T50.setTop (mkF m 139 #[.val (.int u0), .val (.int u1), .val (.int u2), .val (.int u3), .val (.int u4), .val (.int (2 : Int32)), .val (.int (u1.toInt8.toInt32)), .val (.int (u2.toInt8.toInt32)), .val (.int (u3.toInt8.toInt32)), .val (.int (u4.toInt8.toInt32)), .val (.ref b47), .unset] [(.int (0 : Int32))]))
      refine own_st (fun _ k => XS.istore X50.here hx rfl (hb hby at_139) rfl (l' := #[.val (.int u0), .val (.int u1), .val (.int u2), .val (.int u3), .val (.int u4), .val (.int (2 : Int32)), .val (.int (u1.toInt8.toInt32)), .val (.int (u2.toInt8.toInt32)), .val (.int (u3.toInt8.toInt32)), .val (.int (u4.toInt8.toInt32)), .val (.ref b47), .val (.int (0 : Int32))]) rfl k) ?_
      show own_Go _ _ _ _ (T50.setTop (mkF m 141 #[.val (.int u0), .val (.int u1), .val (.int u2), .val (.int u3), .val (.int u4), .val (.int (2 : Int32)), .val (.int (u1.toInt8.toInt32)), .val (.int (u2.toInt8.toInt32)), .val (.int (u3.toInt8.toInt32)), .val (.int (u4.toInt8.toInt32)), .val (.ref b47), .val (.int (0 : Int32))] []))
      refine own_st (fun _ k => XS.aload X50.here hx rfl (hb hby at_141) rfl rfl k) ?_
      show own_Go _ _ _ _ (T50.setTop (mkF m 143 #[.val (.int u0), .val (.int u1), .val (.int u2), .val (.int u3), .val (.int u4), .val (.int (2 : Int32)), .val (.int (u1.toInt8.toInt32)), .val (.int (u2.toInt8.toInt32)), .val (.int (u3.toInt8.toInt32)), .val (.int (u4.toInt8.toInt32)), .val (.ref b47), .val (.int (0 : Int32))] [(.ref b47)]))
      obtain ⟨_, _, ⟨T52, L52, k52, n52⟩, -, X52, ⟨Lc52, hQ52, l52, y52, z52⟩, st52⟩ := Jvm.LawKit.callS X50 hx (y := (⟨"quillvax/mllp/Mllp", "carries", "([B)Z"⟩ : MethodName)) hown (mvT hZ (hw _ (List.mem_of_getElem? (i := 2) rfl))) (mvT hZ (hw _ (List.mem_of_getElem? (i := 3) rfl))) (mvT hZ (hw _ (List.mem_of_getElem? (i := 4) rfl))) (mvT hZ (hw _ (List.mem_of_getElem? (i := 5) rfl))) (by decide) (backOf (W := 0) (rm1_2 l Z a0 hw [] b47 k47 (u1.toInt8.toInt32) (u2.toInt8.toInt32) h49 n0 Z49 V49') hZ (hw _ (List.mem_of_getElem? (i := 5) rfl)) (hw _ (List.mem_of_getElem? (i := 4) rfl)) (by decide) (by decide)) (g := (mkF m 143 #[.val (.int u0), .val (.int u1), .val (.int u2), .val (.int u3), .val (.int u4), .val (.int (2 : Int32)), .val (.int (u1.toInt8.toInt32)), .val (.int (u2.toInt8.toInt32)), .val (.int (u3.toInt8.toInt32)), .val (.int (u4.toInt8.toInt32)), .val (.ref b47), .val (.int (0 : Int32))] [(.ref b47)])) rfl (by rw [hml]; rfl) (argsL := [(.ref b47)]) (rest := []) (lenOf own_pd1 rfl) rfl (by show 2 * 0 + _ ≤ _; exact Nat.le_of_eq rfl) (hb hby at_143) (fun _ _ => ⟨rfl, eq50, (by decide : 1 + 0 ≤ _), (by decide : 2 + 0 ≤ _)⟩)
      dsimp only [Pt.U, Pt.locs, Pt.cells, Pt.slots] at X52 l52 y52 z52 st52 hQ52
      subst l52 y52 z52
      obtain ⟨rfl, Nq52, eq52⟩ := hQ52
      have N52 := Fr.app N50 Nq52
      refine own_st st52 ?_
      show own_Go _ _ _ _ (T52.setTop (mkF m 146 #[.val (.int u0), .val (.int u1), .val (.int u2), .val (.int u3), .val (.int u4), .val (.int (2 : Int32)), .val (.int (u1.toInt8.toInt32)), .val (.int (u2.toInt8.toInt32)), .val (.int (u3.toInt8.toInt32)), .val (.int (u4.toInt8.toInt32)), .val (.ref b47), .val (.int (0 : Int32))] [(.int (own_ca2 (u1.toInt8.toInt32) (u2.toInt8.toInt32)))]))
      refine own_st (fun _ k => XS.iload X52.here hx rfl (hb hby at_146) rfl k) ?_
      show own_Go _ _ _ _ (T52.setTop (mkF m 148 #[.val (.int u0), .val (.int u1), .val (.int u2), .val (.int u3), .val (.int u4), .val (.int (2 : Int32)), .val (.int (u1.toInt8.toInt32)), .val (.int (u2.toInt8.toInt32)), .val (.int (u3.toInt8.toInt32)), .val (.int (u4.toInt8.toInt32)), .val (.ref b47), .val (.int (0 : Int32))] [(.int (0 : Int32)), (.int (own_ca2 (u1.toInt8.toInt32) (u2.toInt8.toInt32)))]))
      refine own_st (fun _ k => XS.icmpNo X52.here hx rfl (hb hby at_148) rfl (teq (by
          unfold own_ca2
          rcases (own_cl_iff u1).mp hc51 with z | z
          · rw [if_pos z]
          · rw [if_neg (by rw [z]; decide), if_pos z])).2 k) ?_
      show own_Go _ _ _ _ (T52.setTop (mkF m 151 #[.val (.int u0), .val (.int u1), .val (.int u2), .val (.int u3), .val (.int u4), .val (.int (2 : Int32)), .val (.int (u1.toInt8.toInt32)), .val (.int (u2.toInt8.toInt32)), .val (.int (u3.toInt8.toInt32)), .val (.int (u4.toInt8.toInt32)), .val (.ref b47), .val (.int (0 : Int32))] []))
      refine own_st (fun _ k => XS.iconst X52.here hx rfl (hb hby at_151) k) ?_
      show own_Go _ _ _ _ (T52.setTop (mkF m 152 #[.val (.int u0), .val (.int u1), .val (.int u2), .val (.int u3), .val (.int u4), .val (.int (2 : Int32)), .val (.int (u1.toInt8.toInt32)), .val (.int (u2.toInt8.toInt32)), .val (.int (u3.toInt8.toInt32)), .val (.int (u4.toInt8.toInt32)), .val (.ref b47), .val (.int (0 : Int32))] [(.int (1 : Int32))]))
      refine own_st (fun _ k => XS.goto X52.here hx rfl (pc0 := 152) (pc' := 156) rfl (hb hby at_152) (by decide) (by decide) k) ?_
      show own_Go _ _ _ _ (T52.setTop (mkF m 156 #[.val (.int u0), .val (.int u1), .val (.int u2), .val (.int u3), .val (.int u4), .val (.int (2 : Int32)), .val (.int (u1.toInt8.toInt32)), .val (.int (u2.toInt8.toInt32)), .val (.int (u3.toInt8.toInt32)), .val (.int (u4.toInt8.toInt32)), .val (.ref b47), .val (.int (0 : Int32))] [(.int (1 : Int32))]))
      obtain ⟨fs, hr, hrun, hended, hW, hsame⟩ := X52.leave (v := some (.int (1 : Int32))) (fun h => by rw [Bd.returns] at h; cases h)
      refine own_out (retN X52 hx (t := .boolean) Bd.returns (by simp) (hb hby at_156) hr) ⟨hrun, hended, _, _, rfl, ?_, ⟨_, rfl⟩, hW, hsame.mono (by decide) (by decide)⟩
      show Q0 Z u0 u1 u2 u3 u4 h0 n0 _ T52.heap _
      exact ⟨rfl, N52⟩
    · skip
      refine own_st (fun _ k => XS.ifNo X50.here hx rfl (hb hby at_89) rfl ((if0 _ _).trans (feq hc51).1) k) ?_
      show own_Go _ _ _ _ (T50.setTop (mkF m 92 #[.val (.int u0), .val (.int u1), .val (.int u2), .val (.int u3), .val (.int u4), .val (.int (2 : Int32)), .val (.int (u1.toInt8.toInt32)), .val (.int (u2.toInt8.toInt32)), .val (.int (u3.toInt8.toInt32)), .val (.int (u4.toInt8.toInt32)), .val (.ref b47), .unset] []))
      refine own_st (fun _ k => XS.iload X50.here hx rfl (hb hby at_92) rfl k) ?_
      show own_Go _ _ _ _ (T50.setTop (mkF m 94 #[.val (.int u0), .val (.int u1), .val (.int u2), .val (.int u3), .val (.int u4), .val (.int (2 : Int32)), .val (.int (u1.toInt8.toInt32)), .val (.int (u2.toInt8.toInt32)), .val (.int (u3.toInt8.toInt32)), .val (.int (u4.toInt8.toInt32)), .val (.ref b47), .unset] [(.int (2 : Int32))]))
      refine own_st (fun _ k => XS.iconst X50.here hx rfl (hb hby at_94) k) ?_
      show own_Go _ _ _ _ (T50.setTop (mkF m 95 #[.val (.int u0), .val (.int u1), .val (.int u2), .val (.int u3), .val (.int u4), .val (.int (2 : Int32)), .val (.int (u1.toInt8.toInt32)), .val (.int (u2.toInt8.toInt32)), .val (.int (u3.toInt8.toInt32)), .val (.int (u4.toInt8.toInt32)), .val (.ref b47), .unset] [(.int (2 : Int32)), (.int (2 : Int32))]))
      refine own_st (fun _ k => XS.icmpNo X50.here hx rfl (hb hby at_95) rfl (flt (by decide : ¬ ((2 : Int32) < (2 : Int32)))).1 k) ?_
      show own_Go _ _ _ _ (T50.setTop (mkF m 98 #[.val (.int u0), .val (.int u1), .val (.int u2), .val (.int u3), .val (.int u4), .val (.int (2 : Int32)), .val (.int (u1.toInt8.toInt32)), .val (.int (u2.toInt8.toInt32)), .val (.int (u3.toInt8.toInt32)), .val (.int (u4.toInt8.toInt32)), .val (.ref b47), .unset] []))
      refine own_st (fun _ k => XS.iload X50.here hx rfl (hb hby at_98) rfl k) ?_
      show own_Go _ _ _ _ (T50.setTop (mkF m 100 #[.val (.int u0), .val (.int u1), .val (.int u2), .val (.int u3), .val (.int u4), .val (.int (2 : Int32)), .val (.int (u1.toInt8.toInt32)), .val (.int (u2.toInt8.toInt32)), .val (.int (u3.toInt8.toInt32)), .val (.int (u4.toInt8.toInt32)), .val (.ref b47), .unset] [(.int (u2.toInt8.toInt32))]))
      obtain ⟨_, _, ⟨T53, L53, k53, n53⟩, -, X53, ⟨Lc53, hQ53, l53, y53, z53⟩, st53⟩ := Jvm.LawKit.callS X50 hx (y := (⟨"quillvax/mllp/MllpCarriesPinLaw", "clean", "(B)Z"⟩ : MethodName)) hown (mvT hZ (hw _ (List.mem_of_getElem? (i := 6) rfl))) (mvT hZ (hw _ (List.mem_of_getElem? (i := 7) rfl))) (mvT hZ (hw _ (List.mem_of_getElem? (i := 8) rfl))) (mvT hZ (hw _ (List.mem_of_getElem? (i := 9) rfl))) (by decide) (backOf (W := 0) (rm2 l Z a0 hw [] (u2.toInt8.toInt32) h49 n0 Z49 ) hZ (hw _ (List.mem_of_getElem? (i := 9) rfl)) (hw _ (List.mem_of_getElem? (i := 8) rfl)) (by decide) (by decide)) (g := (mkF m 100 #[.val (.int u0), .val (.int u1), .val (.int u2), .val (.int u3), .val (.int u4), .val (.int (2 : Int32)), .val (.int (u1.toInt8.toInt32)), .val (.int (u2.toInt8.toInt32)), .val (.int (u3.toInt8.toInt32)), .val (.int (u4.toInt8.toInt32)), .val (.ref b47), .unset] [(.int (u2.toInt8.toInt32))])) rfl (by rw [hml]; rfl) (argsL := [(.int (u2.toInt8.toInt32))]) (rest := []) (lenOf own_pd0 rfl) rfl (by show 2 * 0 + _ ≤ _; exact Nat.le_of_eq rfl) (hb hby at_100) (fun _ _ => ⟨rfl, eq50, (by decide : 1 + 0 ≤ _), (by decide : 2 + 0 ≤ _)⟩)
      dsimp only [Pt.U, Pt.locs, Pt.cells, Pt.slots] at X53 l53 y53 z53 st53 hQ53
      subst l53 y53 z53
      obtain ⟨rfl, Nq53, eq53⟩ := hQ53
      have N53 := Fr.app N50 Nq53
      refine own_st st53 ?_
      show own_Go _ _ _ _ (T53.setTop (mkF m 103 #[.val (.int u0), .val (.int u1), .val (.int u2), .val (.int u3), .val (.int u4), .val (.int (2 : Int32)), .val (.int (u1.toInt8.toInt32)), .val (.int (u2.toInt8.toInt32)), .val (.int (u3.toInt8.toInt32)), .val (.int (u4.toInt8.toInt32)), .val (.ref b47), .unset] [(.int (own_cl (u2.toInt8.toInt32)))]))
      by_cases hc54 : (own_cl (u2.toInt8.toInt32)) = (0 : Int32)
      · skip
        refine own_st (fun _ k => XS.ifYes X53.here hx rfl (pc0 := 103) (pc' := 138) rfl (hb hby at_103) rfl ((if0 _ _).trans (teq hc54).1) (by decide) (by decide) k) ?_
        show own_Go _ _ _ _ (T53.setTop (mkF m 138 #[.val (.int u0), .val (.int u1), .val (.int u2), .val (.int u3), .val (.int u4), .val (.int (2 : Int32)), .val (.int (u1.toInt8.toInt32)), .val (.int (u2.toInt8.toInt32)), .val (.int (u3.toInt8.toInt32)), .val (.int (u4.toInt8.toInt32)), .val (.ref b47), .unset] []))
        refine own_st (fun _ k => XS.iconst X53.here hx rfl (hb hby at_138) k) ?_
        show own_Go _ _ _ _ (T53.setTop (mkF m 139 #[.val (.int u0), .val (.int u1), .val (.int u2), .val (.int u3), .val (.int u4), .val (.int (2 : Int32)), .val (.int (u1.toInt8.toInt32)), .val (.int (u2.toInt8.toInt32)), .val (.int (u3.toInt8.toInt32)), .val (.int (u4.toInt8.toInt32)), .val (.ref b47), .unset] [(.int (0 : Int32))]))
        refine own_st (fun _ k => XS.istore X53.here hx rfl (hb hby at_139) rfl (l' := #[.val (.int u0), .val (.int u1), .val (.int u2), .val (.int u3), .val (.int u4), .val (.int (2 : Int32)), .val (.int (u1.toInt8.toInt32)), .val (.int (u2.toInt8.toInt32)), .val (.int (u3.toInt8.toInt32)), .val (.int (u4.toInt8.toInt32)), .val (.ref b47), .val (.int (0 : Int32))]) rfl k) ?_
        show own_Go _ _ _ _ (T53.setTop (mkF m 141 #[.val (.int u0), .val (.int u1), .val (.int u2), .val (.int u3), .val (.int u4), .val (.int (2 : Int32)), .val (.int (u1.toInt8.toInt32)), .val (.int (u2.toInt8.toInt32)), .val (.int (u3.toInt8.toInt32)), .val (.int (u4.toInt8.toInt32)), .val (.ref b47), .val (.int (0 : Int32))] []))
        refine own_st (fun _ k => XS.aload X53.here hx rfl (hb hby at_141) rfl rfl k) ?_
        show own_Go _ _ _ _ (T53.setTop (mkF m 143 #[.val (.int u0), .val (.int u1), .val (.int u2), .val (.int u3), .val (.int u4), .val (.int (2 : Int32)), .val (.int (u1.toInt8.toInt32)), .val (.int (u2.toInt8.toInt32)), .val (.int (u3.toInt8.toInt32)), .val (.int (u4.toInt8.toInt32)), .val (.ref b47), .val (.int (0 : Int32))] [(.ref b47)]))
        obtain ⟨_, _, ⟨T55, L55, k55, n55⟩, -, X55, ⟨Lc55, hQ55, l55, y55, z55⟩, st55⟩ := Jvm.LawKit.callS X53 hx (y := (⟨"quillvax/mllp/Mllp", "carries", "([B)Z"⟩ : MethodName)) hown (mvT hZ (hw _ (List.mem_of_getElem? (i := 2) rfl))) (mvT hZ (hw _ (List.mem_of_getElem? (i := 3) rfl))) (mvT hZ (hw _ (List.mem_of_getElem? (i := 4) rfl))) (mvT hZ (hw _ (List.mem_of_getElem? (i := 5) rfl))) (by decide) (backOf (W := 0) (rm1_2 l Z a0 hw [] b47 k47 (u1.toInt8.toInt32) (u2.toInt8.toInt32) h49 n0 Z49 V49') hZ (hw _ (List.mem_of_getElem? (i := 5) rfl)) (hw _ (List.mem_of_getElem? (i := 4) rfl)) (by decide) (by decide)) (g := (mkF m 143 #[.val (.int u0), .val (.int u1), .val (.int u2), .val (.int u3), .val (.int u4), .val (.int (2 : Int32)), .val (.int (u1.toInt8.toInt32)), .val (.int (u2.toInt8.toInt32)), .val (.int (u3.toInt8.toInt32)), .val (.int (u4.toInt8.toInt32)), .val (.ref b47), .val (.int (0 : Int32))] [(.ref b47)])) rfl (by rw [hml]; rfl) (argsL := [(.ref b47)]) (rest := []) (lenOf own_pd1 rfl) rfl (by show 2 * 0 + _ ≤ _; exact Nat.le_of_eq rfl) (hb hby at_143) (fun _ _ => ⟨rfl, eq53, (by decide : 1 + 0 ≤ _), (by decide : 2 + 0 ≤ _)⟩)
        dsimp only [Pt.U, Pt.locs, Pt.cells, Pt.slots] at X55 l55 y55 z55 st55 hQ55
        subst l55 y55 z55
        obtain ⟨rfl, Nq55, eq55⟩ := hQ55
        have N55 := Fr.app N53 Nq55
        refine own_st st55 ?_
        show own_Go _ _ _ _ (T55.setTop (mkF m 146 #[.val (.int u0), .val (.int u1), .val (.int u2), .val (.int u3), .val (.int u4), .val (.int (2 : Int32)), .val (.int (u1.toInt8.toInt32)), .val (.int (u2.toInt8.toInt32)), .val (.int (u3.toInt8.toInt32)), .val (.int (u4.toInt8.toInt32)), .val (.ref b47), .val (.int (0 : Int32))] [(.int (own_ca2 (u1.toInt8.toInt32) (u2.toInt8.toInt32)))]))
        refine own_st (fun _ k => XS.iload X55.here hx rfl (hb hby at_146) rfl k) ?_
        show own_Go _ _ _ _ (T55.setTop (mkF m 148 #[.val (.int u0), .val (.int u1), .val (.int u2), .val (.int u3), .val (.int u4), .val (.int (2 : Int32)), .val (.int (u1.toInt8.toInt32)), .val (.int (u2.toInt8.toInt32)), .val (.int (u3.toInt8.toInt32)), .val (.int (u4.toInt8.toInt32)), .val (.ref b47), .val (.int (0 : Int32))] [(.int (0 : Int32)), (.int (own_ca2 (u1.toInt8.toInt32) (u2.toInt8.toInt32)))]))
        refine own_st (fun _ k => XS.icmpNo X55.here hx rfl (hb hby at_148) rfl (teq (by
            unfold own_ca2
            rcases (own_cl_iff u2).mp hc54 with z | z
            · rw [if_neg (own_no u1 hc51).1, if_neg (own_no u1 hc51).2, if_pos z]
            · rw [if_neg (own_no u1 hc51).1, if_neg (own_no u1 hc51).2, if_neg (by rw [z]; decide), if_pos z])).2 k) ?_
        show own_Go _ _ _ _ (T55.setTop (mkF m 151 #[.val (.int u0), .val (.int u1), .val (.int u2), .val (.int u3), .val (.int u4), .val (.int (2 : Int32)), .val (.int (u1.toInt8.toInt32)), .val (.int (u2.toInt8.toInt32)), .val (.int (u3.toInt8.toInt32)), .val (.int (u4.toInt8.toInt32)), .val (.ref b47), .val (.int (0 : Int32))] []))
        refine own_st (fun _ k => XS.iconst X55.here hx rfl (hb hby at_151) k) ?_
        show own_Go _ _ _ _ (T55.setTop (mkF m 152 #[.val (.int u0), .val (.int u1), .val (.int u2), .val (.int u3), .val (.int u4), .val (.int (2 : Int32)), .val (.int (u1.toInt8.toInt32)), .val (.int (u2.toInt8.toInt32)), .val (.int (u3.toInt8.toInt32)), .val (.int (u4.toInt8.toInt32)), .val (.ref b47), .val (.int (0 : Int32))] [(.int (1 : Int32))]))
        refine own_st (fun _ k => XS.goto X55.here hx rfl (pc0 := 152) (pc' := 156) rfl (hb hby at_152) (by decide) (by decide) k) ?_
        show own_Go _ _ _ _ (T55.setTop (mkF m 156 #[.val (.int u0), .val (.int u1), .val (.int u2), .val (.int u3), .val (.int u4), .val (.int (2 : Int32)), .val (.int (u1.toInt8.toInt32)), .val (.int (u2.toInt8.toInt32)), .val (.int (u3.toInt8.toInt32)), .val (.int (u4.toInt8.toInt32)), .val (.ref b47), .val (.int (0 : Int32))] [(.int (1 : Int32))]))
        obtain ⟨fs, hr, hrun, hended, hW, hsame⟩ := X55.leave (v := some (.int (1 : Int32))) (fun h => by rw [Bd.returns] at h; cases h)
        refine own_out (retN X55 hx (t := .boolean) Bd.returns (by simp) (hb hby at_156) hr) ⟨hrun, hended, _, _, rfl, ?_, ⟨_, rfl⟩, hW, hsame.mono (by decide) (by decide)⟩
        show Q0 Z u0 u1 u2 u3 u4 h0 n0 _ T55.heap _
        exact ⟨rfl, N55⟩
      · skip
        refine own_st (fun _ k => XS.ifNo X53.here hx rfl (hb hby at_103) rfl ((if0 _ _).trans (feq hc54).1) k) ?_
        show own_Go _ _ _ _ (T53.setTop (mkF m 106 #[.val (.int u0), .val (.int u1), .val (.int u2), .val (.int u3), .val (.int u4), .val (.int (2 : Int32)), .val (.int (u1.toInt8.toInt32)), .val (.int (u2.toInt8.toInt32)), .val (.int (u3.toInt8.toInt32)), .val (.int (u4.toInt8.toInt32)), .val (.ref b47), .unset] []))
        refine own_st (fun _ k => XS.iload X53.here hx rfl (hb hby at_106) rfl k) ?_
        show own_Go _ _ _ _ (T53.setTop (mkF m 108 #[.val (.int u0), .val (.int u1), .val (.int u2), .val (.int u3), .val (.int u4), .val (.int (2 : Int32)), .val (.int (u1.toInt8.toInt32)), .val (.int (u2.toInt8.toInt32)), .val (.int (u3.toInt8.toInt32)), .val (.int (u4.toInt8.toInt32)), .val (.ref b47), .unset] [(.int (2 : Int32))]))
        refine own_st (fun _ k => XS.iconst X53.here hx rfl (hb hby at_108) k) ?_
        show own_Go _ _ _ _ (T53.setTop (mkF m 109 #[.val (.int u0), .val (.int u1), .val (.int u2), .val (.int u3), .val (.int u4), .val (.int (2 : Int32)), .val (.int (u1.toInt8.toInt32)), .val (.int (u2.toInt8.toInt32)), .val (.int (u3.toInt8.toInt32)), .val (.int (u4.toInt8.toInt32)), .val (.ref b47), .unset] [(.int (3 : Int32)), (.int (2 : Int32))]))
        refine own_st (fun _ k => XS.icmpYes X53.here hx rfl (pc0 := 109) (pc' := 120) rfl (hb hby at_109) rfl (tlt (by decide : ((2 : Int32) < (3 : Int32)))).1 (by decide) (by decide) k) ?_
        show own_Go _ _ _ _ (T53.setTop (mkF m 120 #[.val (.int u0), .val (.int u1), .val (.int u2), .val (.int u3), .val (.int u4), .val (.int (2 : Int32)), .val (.int (u1.toInt8.toInt32)), .val (.int (u2.toInt8.toInt32)), .val (.int (u3.toInt8.toInt32)), .val (.int (u4.toInt8.toInt32)), .val (.ref b47), .unset] []))
        refine own_st (fun _ k => XS.iload X53.here hx rfl (hb hby at_120) rfl k) ?_
        show own_Go _ _ _ _ (T53.setTop (mkF m 122 #[.val (.int u0), .val (.int u1), .val (.int u2), .val (.int u3), .val (.int u4), .val (.int (2 : Int32)), .val (.int (u1.toInt8.toInt32)), .val (.int (u2.toInt8.toInt32)), .val (.int (u3.toInt8.toInt32)), .val (.int (u4.toInt8.toInt32)), .val (.ref b47), .unset] [(.int (2 : Int32))]))
        refine own_st (fun _ k => XS.iconst X53.here hx rfl (hb hby at_122) k) ?_
        show own_Go _ _ _ _ (T53.setTop (mkF m 123 #[.val (.int u0), .val (.int u1), .val (.int u2), .val (.int u3), .val (.int u4), .val (.int (2 : Int32)), .val (.int (u1.toInt8.toInt32)), .val (.int (u2.toInt8.toInt32)), .val (.int (u3.toInt8.toInt32)), .val (.int (u4.toInt8.toInt32)), .val (.ref b47), .unset] [(.int (4 : Int32)), (.int (2 : Int32))]))
        refine own_st (fun _ k => XS.icmpYes X53.here hx rfl (pc0 := 123) (pc' := 134) rfl (hb hby at_123) rfl (tlt (by decide : ((2 : Int32) < (4 : Int32)))).1 (by decide) (by decide) k) ?_
        show own_Go _ _ _ _ (T53.setTop (mkF m 134 #[.val (.int u0), .val (.int u1), .val (.int u2), .val (.int u3), .val (.int u4), .val (.int (2 : Int32)), .val (.int (u1.toInt8.toInt32)), .val (.int (u2.toInt8.toInt32)), .val (.int (u3.toInt8.toInt32)), .val (.int (u4.toInt8.toInt32)), .val (.ref b47), .unset] []))
        refine own_st (fun _ k => XS.iconst X53.here hx rfl (hb hby at_134) k) ?_
        show own_Go _ _ _ _ (T53.setTop (mkF m 135 #[.val (.int u0), .val (.int u1), .val (.int u2), .val (.int u3), .val (.int u4), .val (.int (2 : Int32)), .val (.int (u1.toInt8.toInt32)), .val (.int (u2.toInt8.toInt32)), .val (.int (u3.toInt8.toInt32)), .val (.int (u4.toInt8.toInt32)), .val (.ref b47), .unset] [(.int (1 : Int32))]))
        refine own_st (fun _ k => XS.goto X53.here hx rfl (pc0 := 135) (pc' := 139) rfl (hb hby at_135) (by decide) (by decide) k) ?_
        show own_Go _ _ _ _ (T53.setTop (mkF m 139 #[.val (.int u0), .val (.int u1), .val (.int u2), .val (.int u3), .val (.int u4), .val (.int (2 : Int32)), .val (.int (u1.toInt8.toInt32)), .val (.int (u2.toInt8.toInt32)), .val (.int (u3.toInt8.toInt32)), .val (.int (u4.toInt8.toInt32)), .val (.ref b47), .unset] [(.int (1 : Int32))]))
        refine own_st (fun _ k => XS.istore X53.here hx rfl (hb hby at_139) rfl (l' := #[.val (.int u0), .val (.int u1), .val (.int u2), .val (.int u3), .val (.int u4), .val (.int (2 : Int32)), .val (.int (u1.toInt8.toInt32)), .val (.int (u2.toInt8.toInt32)), .val (.int (u3.toInt8.toInt32)), .val (.int (u4.toInt8.toInt32)), .val (.ref b47), .val (.int (1 : Int32))]) rfl k) ?_
        show own_Go _ _ _ _ (T53.setTop (mkF m 141 #[.val (.int u0), .val (.int u1), .val (.int u2), .val (.int u3), .val (.int u4), .val (.int (2 : Int32)), .val (.int (u1.toInt8.toInt32)), .val (.int (u2.toInt8.toInt32)), .val (.int (u3.toInt8.toInt32)), .val (.int (u4.toInt8.toInt32)), .val (.ref b47), .val (.int (1 : Int32))] []))
        refine own_st (fun _ k => XS.aload X53.here hx rfl (hb hby at_141) rfl rfl k) ?_
        show own_Go _ _ _ _ (T53.setTop (mkF m 143 #[.val (.int u0), .val (.int u1), .val (.int u2), .val (.int u3), .val (.int u4), .val (.int (2 : Int32)), .val (.int (u1.toInt8.toInt32)), .val (.int (u2.toInt8.toInt32)), .val (.int (u3.toInt8.toInt32)), .val (.int (u4.toInt8.toInt32)), .val (.ref b47), .val (.int (1 : Int32))] [(.ref b47)]))
        obtain ⟨_, _, ⟨T56, L56, k56, n56⟩, -, X56, ⟨Lc56, hQ56, l56, y56, z56⟩, st56⟩ := Jvm.LawKit.callS X53 hx (y := (⟨"quillvax/mllp/Mllp", "carries", "([B)Z"⟩ : MethodName)) hown (mvT hZ (hw _ (List.mem_of_getElem? (i := 2) rfl))) (mvT hZ (hw _ (List.mem_of_getElem? (i := 3) rfl))) (mvT hZ (hw _ (List.mem_of_getElem? (i := 4) rfl))) (mvT hZ (hw _ (List.mem_of_getElem? (i := 5) rfl))) (by decide) (backOf (W := 0) (rm1_2 l Z a0 hw [] b47 k47 (u1.toInt8.toInt32) (u2.toInt8.toInt32) h49 n0 Z49 V49') hZ (hw _ (List.mem_of_getElem? (i := 5) rfl)) (hw _ (List.mem_of_getElem? (i := 4) rfl)) (by decide) (by decide)) (g := (mkF m 143 #[.val (.int u0), .val (.int u1), .val (.int u2), .val (.int u3), .val (.int u4), .val (.int (2 : Int32)), .val (.int (u1.toInt8.toInt32)), .val (.int (u2.toInt8.toInt32)), .val (.int (u3.toInt8.toInt32)), .val (.int (u4.toInt8.toInt32)), .val (.ref b47), .val (.int (1 : Int32))] [(.ref b47)])) rfl (by rw [hml]; rfl) (argsL := [(.ref b47)]) (rest := []) (lenOf own_pd1 rfl) rfl (by show 2 * 0 + _ ≤ _; exact Nat.le_of_eq rfl) (hb hby at_143) (fun _ _ => ⟨rfl, eq53, (by decide : 1 + 0 ≤ _), (by decide : 2 + 0 ≤ _)⟩)
        dsimp only [Pt.U, Pt.locs, Pt.cells, Pt.slots] at X56 l56 y56 z56 st56 hQ56
        subst l56 y56 z56
        obtain ⟨rfl, Nq56, eq56⟩ := hQ56
        have N56 := Fr.app N53 Nq56
        refine own_st st56 ?_
        show own_Go _ _ _ _ (T56.setTop (mkF m 146 #[.val (.int u0), .val (.int u1), .val (.int u2), .val (.int u3), .val (.int u4), .val (.int (2 : Int32)), .val (.int (u1.toInt8.toInt32)), .val (.int (u2.toInt8.toInt32)), .val (.int (u3.toInt8.toInt32)), .val (.int (u4.toInt8.toInt32)), .val (.ref b47), .val (.int (1 : Int32))] [(.int (own_ca2 (u1.toInt8.toInt32) (u2.toInt8.toInt32)))]))
        refine own_st (fun _ k => XS.iload X56.here hx rfl (hb hby at_146) rfl k) ?_
        show own_Go _ _ _ _ (T56.setTop (mkF m 148 #[.val (.int u0), .val (.int u1), .val (.int u2), .val (.int u3), .val (.int u4), .val (.int (2 : Int32)), .val (.int (u1.toInt8.toInt32)), .val (.int (u2.toInt8.toInt32)), .val (.int (u3.toInt8.toInt32)), .val (.int (u4.toInt8.toInt32)), .val (.ref b47), .val (.int (1 : Int32))] [(.int (1 : Int32)), (.int (own_ca2 (u1.toInt8.toInt32) (u2.toInt8.toInt32)))]))
        refine own_st (fun _ k => XS.icmpNo X56.here hx rfl (hb hby at_148) rfl (teq (by unfold own_ca2; rw [if_neg (own_no u1 hc51).1, if_neg (own_no u1 hc51).2, if_neg (own_no u2 hc54).1, if_neg (own_no u2 hc54).2])).2 k) ?_
        show own_Go _ _ _ _ (T56.setTop (mkF m 151 #[.val (.int u0), .val (.int u1), .val (.int u2), .val (.int u3), .val (.int u4), .val (.int (2 : Int32)), .val (.int (u1.toInt8.toInt32)), .val (.int (u2.toInt8.toInt32)), .val (.int (u3.toInt8.toInt32)), .val (.int (u4.toInt8.toInt32)), .val (.ref b47), .val (.int (1 : Int32))] []))
        refine own_st (fun _ k => XS.iconst X56.here hx rfl (hb hby at_151) k) ?_
        show own_Go _ _ _ _ (T56.setTop (mkF m 152 #[.val (.int u0), .val (.int u1), .val (.int u2), .val (.int u3), .val (.int u4), .val (.int (2 : Int32)), .val (.int (u1.toInt8.toInt32)), .val (.int (u2.toInt8.toInt32)), .val (.int (u3.toInt8.toInt32)), .val (.int (u4.toInt8.toInt32)), .val (.ref b47), .val (.int (1 : Int32))] [(.int (1 : Int32))]))
        refine own_st (fun _ k => XS.goto X56.here hx rfl (pc0 := 152) (pc' := 156) rfl (hb hby at_152) (by decide) (by decide) k) ?_
        show own_Go _ _ _ _ (T56.setTop (mkF m 156 #[.val (.int u0), .val (.int u1), .val (.int u2), .val (.int u3), .val (.int u4), .val (.int (2 : Int32)), .val (.int (u1.toInt8.toInt32)), .val (.int (u2.toInt8.toInt32)), .val (.int (u3.toInt8.toInt32)), .val (.int (u4.toInt8.toInt32)), .val (.ref b47), .val (.int (1 : Int32))] [(.int (1 : Int32))]))
        obtain ⟨fs, hr, hrun, hended, hW, hsame⟩ := X56.leave (v := some (.int (1 : Int32))) (fun h => by rw [Bd.returns] at h; cases h)
        refine own_out (retN X56 hx (t := .boolean) Bd.returns (by simp) (hb hby at_156) hr) ⟨hrun, hended, _, _, rfl, ?_, ⟨_, rfl⟩, hW, hsame.mono (by decide) (by decide)⟩
        show Q0 Z u0 u1 u2 u3 u4 h0 n0 _ T56.heap _
        exact ⟨rfl, N56⟩
  · skip
    rw [hs38]
    show own_Go _ _ _ _ (s₁.setTop (mkF m 8 #[.val (.int u0), .val (.int u1), .val (.int u2), .val (.int u3), .val (.int u4), .val (.int (3 : Int32)), .unset, .unset, .unset, .unset, .unset, .unset] []))
    refine own_st (fun _ k => XS.iloadN X0.here hx rfl (hb hby at_8) rfl k) ?_
    show own_Go _ _ _ _ (s₁.setTop (mkF m 9 #[.val (.int u0), .val (.int u1), .val (.int u2), .val (.int u3), .val (.int u4), .val (.int (3 : Int32)), .unset, .unset, .unset, .unset, .unset, .unset] [(.int u1)]))
    refine own_st (fun _ k => XS.i2b X0.here hx rfl (hb hby at_9) rfl k) ?_
    show own_Go _ _ _ _ (s₁.setTop (mkF m 10 #[.val (.int u0), .val (.int u1), .val (.int u2), .val (.int u3), .val (.int u4), .val (.int (3 : Int32)), .unset, .unset, .unset, .unset, .unset, .unset] [(.int (u1.toInt8.toInt32))]))
    refine own_st (fun _ k => XS.istore X0.here hx rfl (hb hby at_10) rfl (l' := #[.val (.int u0), .val (.int u1), .val (.int u2), .val (.int u3), .val (.int u4), .val (.int (3 : Int32)), .val (.int (u1.toInt8.toInt32)), .unset, .unset, .unset, .unset, .unset]) rfl k) ?_
    show own_Go _ _ _ _ (s₁.setTop (mkF m 12 #[.val (.int u0), .val (.int u1), .val (.int u2), .val (.int u3), .val (.int u4), .val (.int (3 : Int32)), .val (.int (u1.toInt8.toInt32)), .unset, .unset, .unset, .unset, .unset] []))
    refine own_st (fun _ k => XS.iloadN X0.here hx rfl (hb hby at_12) rfl k) ?_
    show own_Go _ _ _ _ (s₁.setTop (mkF m 13 #[.val (.int u0), .val (.int u1), .val (.int u2), .val (.int u3), .val (.int u4), .val (.int (3 : Int32)), .val (.int (u1.toInt8.toInt32)), .unset, .unset, .unset, .unset, .unset] [(.int u2)]))
    refine own_st (fun _ k => XS.i2b X0.here hx rfl (hb hby at_13) rfl k) ?_
    show own_Go _ _ _ _ (s₁.setTop (mkF m 14 #[.val (.int u0), .val (.int u1), .val (.int u2), .val (.int u3), .val (.int u4), .val (.int (3 : Int32)), .val (.int (u1.toInt8.toInt32)), .unset, .unset, .unset, .unset, .unset] [(.int (u2.toInt8.toInt32))]))
    refine own_st (fun _ k => XS.istore X0.here hx rfl (hb hby at_14) rfl (l' := #[.val (.int u0), .val (.int u1), .val (.int u2), .val (.int u3), .val (.int u4), .val (.int (3 : Int32)), .val (.int (u1.toInt8.toInt32)), .val (.int (u2.toInt8.toInt32)), .unset, .unset, .unset, .unset]) rfl k) ?_
    show own_Go _ _ _ _ (s₁.setTop (mkF m 16 #[.val (.int u0), .val (.int u1), .val (.int u2), .val (.int u3), .val (.int u4), .val (.int (3 : Int32)), .val (.int (u1.toInt8.toInt32)), .val (.int (u2.toInt8.toInt32)), .unset, .unset, .unset, .unset] []))
    refine own_st (fun _ k => XS.iloadN X0.here hx rfl (hb hby at_16) rfl k) ?_
    show own_Go _ _ _ _ (s₁.setTop (mkF m 17 #[.val (.int u0), .val (.int u1), .val (.int u2), .val (.int u3), .val (.int u4), .val (.int (3 : Int32)), .val (.int (u1.toInt8.toInt32)), .val (.int (u2.toInt8.toInt32)), .unset, .unset, .unset, .unset] [(.int u3)]))
    refine own_st (fun _ k => XS.i2b X0.here hx rfl (hb hby at_17) rfl k) ?_
    show own_Go _ _ _ _ (s₁.setTop (mkF m 18 #[.val (.int u0), .val (.int u1), .val (.int u2), .val (.int u3), .val (.int u4), .val (.int (3 : Int32)), .val (.int (u1.toInt8.toInt32)), .val (.int (u2.toInt8.toInt32)), .unset, .unset, .unset, .unset] [(.int (u3.toInt8.toInt32))]))
    refine own_st (fun _ k => XS.istore X0.here hx rfl (hb hby at_18) rfl (l' := #[.val (.int u0), .val (.int u1), .val (.int u2), .val (.int u3), .val (.int u4), .val (.int (3 : Int32)), .val (.int (u1.toInt8.toInt32)), .val (.int (u2.toInt8.toInt32)), .val (.int (u3.toInt8.toInt32)), .unset, .unset, .unset]) rfl k) ?_
    show own_Go _ _ _ _ (s₁.setTop (mkF m 20 #[.val (.int u0), .val (.int u1), .val (.int u2), .val (.int u3), .val (.int u4), .val (.int (3 : Int32)), .val (.int (u1.toInt8.toInt32)), .val (.int (u2.toInt8.toInt32)), .val (.int (u3.toInt8.toInt32)), .unset, .unset, .unset] []))
    refine own_st (fun _ k => XS.iload X0.here hx rfl (hb hby at_20) rfl k) ?_
    show own_Go _ _ _ _ (s₁.setTop (mkF m 22 #[.val (.int u0), .val (.int u1), .val (.int u2), .val (.int u3), .val (.int u4), .val (.int (3 : Int32)), .val (.int (u1.toInt8.toInt32)), .val (.int (u2.toInt8.toInt32)), .val (.int (u3.toInt8.toInt32)), .unset, .unset, .unset] [(.int u4)]))
    refine own_st (fun _ k => XS.i2b X0.here hx rfl (hb hby at_22) rfl k) ?_
    show own_Go _ _ _ _ (s₁.setTop (mkF m 23 #[.val (.int u0), .val (.int u1), .val (.int u2), .val (.int u3), .val (.int u4), .val (.int (3 : Int32)), .val (.int (u1.toInt8.toInt32)), .val (.int (u2.toInt8.toInt32)), .val (.int (u3.toInt8.toInt32)), .unset, .unset, .unset] [(.int (u4.toInt8.toInt32))]))
    refine own_st (fun _ k => XS.istore X0.here hx rfl (hb hby at_23) rfl (l' := #[.val (.int u0), .val (.int u1), .val (.int u2), .val (.int u3), .val (.int u4), .val (.int (3 : Int32)), .val (.int (u1.toInt8.toInt32)), .val (.int (u2.toInt8.toInt32)), .val (.int (u3.toInt8.toInt32)), .val (.int (u4.toInt8.toInt32)), .unset, .unset]) rfl k) ?_
    show own_Go _ _ _ _ (s₁.setTop (mkF m 25 #[.val (.int u0), .val (.int u1), .val (.int u2), .val (.int u3), .val (.int u4), .val (.int (3 : Int32)), .val (.int (u1.toInt8.toInt32)), .val (.int (u2.toInt8.toInt32)), .val (.int (u3.toInt8.toInt32)), .val (.int (u4.toInt8.toInt32)), .unset, .unset] []))
    refine own_st (fun _ k => XS.iload X0.here hx rfl (hb hby at_25) rfl k) ?_
    show own_Go _ _ _ _ (s₁.setTop (mkF m 27 #[.val (.int u0), .val (.int u1), .val (.int u2), .val (.int u3), .val (.int u4), .val (.int (3 : Int32)), .val (.int (u1.toInt8.toInt32)), .val (.int (u2.toInt8.toInt32)), .val (.int (u3.toInt8.toInt32)), .val (.int (u4.toInt8.toInt32)), .unset, .unset] [(.int (3 : Int32))]))
    obtain ⟨T57, h57, k57, X57, e57, E57, A57, st57⟩ := newP X0 hx hZ (hw _ (List.mem_of_getElem? (i := 1) rfl)) e0 (g := (mkF m 27 #[.val (.int u0), .val (.int u1), .val (.int u2), .val (.int u3), .val (.int u4), .val (.int (3 : Int32)), .val (.int (u1.toInt8.toInt32)), .val (.int (u2.toInt8.toInt32)), .val (.int (u3.toInt8.toInt32)), .val (.int (u4.toInt8.toInt32)), .unset, .unset] [(.int (3 : Int32))])) rfl (hb hby at_27) rfl (by decide : ¬ ((3 : Int32) < (0 : Int32))) (cap := 3) (by decide : ((3 : Int32)).toNatClampNeg ≤ 3) (by decide) (by decide) (by decide)
    obtain ⟨b57, g57⟩ : ∃ z, z = h0.size := ⟨_, rfl⟩
    rw [← g57] at A57 st57
    refine own_st st57 ?_
    have Z57 : n0 ≤ h57.size := Nat.le_trans Z0 E57.1
    have gnb57 : n0 ≤ b57 := Nat.le_trans Z0 (Nat.le_of_eq g57.symm)
    have gkb57 : h0.size ≤ b57 := Nat.le_trans K0.1 (Nat.le_of_eq g57.symm)
    have K57 : Keep h0 h57 [] := K0.ext E57
    have V57 : Arv Z h57 b57 k57 .byte (3 : Int32) [(.int (0 : Int32)), (.int (0 : Int32)), (.int (0 : Int32))] (.int (0 : Int32)) := (Arv.new A57 (by decide : ¬ ((3 : Int32) < (0 : Int32)))).pad (pad_rep [] (.int (0 : Int32)) 3)
    show own_Go _ _ _ _ (T57.setTop (mkF m 29 #[.val (.int u0), .val (.int u1), .val (.int u2), .val (.int u3), .val (.int u4), .val (.int (3 : Int32)), .val (.int (u1.toInt8.toInt32)), .val (.int (u2.toInt8.toInt32)), .val (.int (u3.toInt8.toInt32)), .val (.int (u4.toInt8.toInt32)), .unset, .unset] [(.ref b57)]))
    refine own_st (fun _ k => XS.astore X57.here hx rfl (hb hby at_29) rfl rfl (l' := #[.val (.int u0), .val (.int u1), .val (.int u2), .val (.int u3), .val (.int u4), .val (.int (3 : Int32)), .val (.int (u1.toInt8.toInt32)), .val (.int (u2.toInt8.toInt32)), .val (.int (u3.toInt8.toInt32)), .val (.int (u4.toInt8.toInt32)), .val (.ref b57), .unset]) rfl k) ?_
    show own_Go _ _ _ _ (T57.setTop (mkF m 31 #[.val (.int u0), .val (.int u1), .val (.int u2), .val (.int u3), .val (.int u4), .val (.int (3 : Int32)), .val (.int (u1.toInt8.toInt32)), .val (.int (u2.toInt8.toInt32)), .val (.int (u3.toInt8.toInt32)), .val (.int (u4.toInt8.toInt32)), .val (.ref b57), .unset] []))
    refine own_st (fun _ k => XS.iload X57.here hx rfl (hb hby at_31) rfl k) ?_
    show own_Go _ _ _ _ (T57.setTop (mkF m 33 #[.val (.int u0), .val (.int u1), .val (.int u2), .val (.int u3), .val (.int u4), .val (.int (3 : Int32)), .val (.int (u1.toInt8.toInt32)), .val (.int (u2.toInt8.toInt32)), .val (.int (u3.toInt8.toInt32)), .val (.int (u4.toInt8.toInt32)), .val (.ref b57), .unset] [(.int (3 : Int32))]))
    refine own_st (fun _ k => XS.ifNo X57.here hx rfl (hb hby at_33) rfl ((if0 _ _).trans (tlt (by decide : ((0 : Int32) < (3 : Int32)))).2.2.2) k) ?_
    show own_Go _ _ _ _ (T57.setTop (mkF m 36 #[.val (.int u0), .val (.int u1), .val (.int u2), .val (.int u3), .val (.int u4), .val (.int (3 : Int32)), .val (.int (u1.toInt8.toInt32)), .val (.int (u2.toInt8.toInt32)), .val (.int (u3.toInt8.toInt32)), .val (.int (u4.toInt8.toInt32)), .val (.ref b57), .unset] []))
    refine own_st (fun _ k => XS.aload X57.here hx rfl (hb hby at_36) rfl rfl k) ?_
    show own_Go _ _ _ _ (T57.setTop (mkF m 38 #[.val (.int u0), .val (.int u1), .val (.int u2), .val (.int u3), .val (.int u4), .val (.int (3 : Int32)), .val (.int (u1.toInt8.toInt32)), .val (.int (u2.toInt8.toInt32)), .val (.int (u3.toInt8.toInt32)), .val (.int (u4.toInt8.toInt32)), .val (.ref b57), .unset] [(.ref b57)]))
    refine own_st (fun _ k => XS.iconst X57.here hx rfl (hb hby at_38) k) ?_
    show own_Go _ _ _ _ (T57.setTop (mkF m 39 #[.val (.int u0), .val (.int u1), .val (.int u2), .val (.int u3), .val (.int u4), .val (.int (3 : Int32)), .val (.int (u1.toInt8.toInt32)), .val (.int (u2.toInt8.toInt32)), .val (.int (u3.toInt8.toInt32)), .val (.int (u4.toInt8.toInt32)), .val (.ref b57), .unset] [(.int (0 : Int32)), (.ref b57)]))
    refine own_st (fun _ k => XS.iload X57.here hx rfl (hb hby at_39) rfl k) ?_
    show own_Go _ _ _ _ (T57.setTop (mkF m 41 #[.val (.int u0), .val (.int u1), .val (.int u2), .val (.int u3), .val (.int u4), .val (.int (3 : Int32)), .val (.int (u1.toInt8.toInt32)), .val (.int (u2.toInt8.toInt32)), .val (.int (u3.toInt8.toInt32)), .val (.int (u4.toInt8.toInt32)), .val (.ref b57), .unset] [(.int (u1.toInt8.toInt32)), (.int (0 : Int32)), (.ref b57)]))
    obtain ⟨cl58, Ar58, Kd58, Sz58, Nn58, Hs58, Gs58⟩ := id V57
    obtain ⟨T58, h58, X58, e58, W58, st58⟩ := stB X57 hx hZ e57 Ar58 (j := (0 : Int32)) (inb_of Sz58 ⟨(by decide : ¬ ((0 : Int32) < (0 : Int32))), (by decide : (0 : Int32) < (3 : Int32))⟩) (g := (mkF m 41 #[.val (.int u0), .val (.int u1), .val (.int u2), .val (.int u3), .val (.int u4), .val (.int (3 : Int32)), .val (.int (u1.toInt8.toInt32)), .val (.int (u2.toInt8.toInt32)), .val (.int (u3.toInt8.toInt32)), .val (.int (u4.toInt8.toInt32)), .val (.ref b57), .unset] [(.int (u1.toInt8.toInt32)), (.int (0 : Int32)), (.ref b57)])) rfl rfl (hb hby at_41)
    refine own_st st58 ?_
    have V58 := Arv.set Ar58 Kd58 Sz58 Nn58 Hs58 Gs58 (fits_nar_byte _) W58 0 rfl (Nat.le_of_ble_eq_true rfl)
    have V58' : Arv Z h58 b57 k57 .byte (3 : Int32) [(.int (u1.toInt8.toInt32)), (.int (0 : Int32)), (.int (0 : Int32))] (.int (0 : Int32)) := by have q := V58; rw [own_narB] at q; exact q
    have Z58 : n0 ≤ h58.size := Nat.le_trans Z57 (Nat.le_of_eq W58.size.symm)
    have N58 := Fr.snoc X58 N0 gnb57
    have K58 : Keep h0 h58 [] := K57.wr W58 (Or.inr gkb57)
    show own_Go _ _ _ _ (T58.setTop (mkF m 42 #[.val (.int u0), .val (.int u1), .val (.int u2), .val (.int u3), .val (.int u4), .val (.int (3 : Int32)), .val (.int (u1.toInt8.toInt32)), .val (.int (u2.toInt8.toInt32)), .val (.int (u3.toInt8.toInt32)), .val (.int (u4.toInt8.toInt32)), .val (.ref b57), .unset] []))
    refine own_st (fun _ k => XS.iload X58.here hx rfl (hb hby at_42) rfl k) ?_
    show own_Go _ _ _ _ (T58.setTop (mkF m 44 #[.val (.int u0), .val (.int u1), .val (.int u2), .val (.int u3), .val (.int u4), .val (.int (3 : Int32)), .val (.int (u1.toInt8.toInt32)), .val (.int (u2.toInt8.toInt32)), .val (.int (u3.toInt8.toInt32)), .val (.int (u4.toInt8.toInt32)), .val (.ref b57), .unset] [(.int (3 : Int32))]))
    refine own_st (fun _ k => XS.iconst X58.here hx rfl (hb hby at_44) k) ?_
    show own_Go _ _ _ _ (T58.setTop (mkF m 45 #[.val (.int u0), .val (.int u1), .val (.int u2), .val (.int u3), .val (.int u4), .val (.int (3 : Int32)), .val (.int (u1.toInt8.toInt32)), .val (.int (u2.toInt8.toInt32)), .val (.int (u3.toInt8.toInt32)), .val (.int (u4.toInt8.toInt32)), .val (.ref b57), .unset] [(.int (1 : Int32)), (.int (3 : Int32))]))
    refine own_st (fun _ k => XS.icmpNo X58.here hx rfl (hb hby at_45) rfl (tlt (by decide : ((1 : Int32) < (3 : Int32)))).2.2.2 k) ?_
    show own_Go _ _ _ _ (T58.setTop (mkF m 48 #[.val (.int u0), .val (.int u1), .val (.int u2), .val (.int u3), .val (.int u4), .val (.int (3 : Int32)), .val (.int (u1.toInt8.toInt32)), .val (.int (u2.toInt8.toInt32)), .val (.int (u3.toInt8.toInt32)), .val (.int (u4.toInt8.toInt32)), .val (.ref b57), .unset] []))
    refine own_st (fun _ k => XS.aload X58.here hx rfl (hb hby at_48) rfl rfl k) ?_
    show own_Go _ _ _ _ (T58.setTop (mkF m 50 #[.val (.int u0), .val (.int u1), .val (.int u2), .val (.int u3), .val (.int u4), .val (.int (3 : Int32)), .val (.int (u1.toInt8.toInt32)), .val (.int (u2.toInt8.toInt32)), .val (.int (u3.toInt8.toInt32)), .val (.int (u4.toInt8.toInt32)), .val (.ref b57), .unset] [(.ref b57)]))
    refine own_st (fun _ k => XS.iconst X58.here hx rfl (hb hby at_50) k) ?_
    show own_Go _ _ _ _ (T58.setTop (mkF m 51 #[.val (.int u0), .val (.int u1), .val (.int u2), .val (.int u3), .val (.int u4), .val (.int (3 : Int32)), .val (.int (u1.toInt8.toInt32)), .val (.int (u2.toInt8.toInt32)), .val (.int (u3.toInt8.toInt32)), .val (.int (u4.toInt8.toInt32)), .val (.ref b57), .unset] [(.int (1 : Int32)), (.ref b57)]))
    refine own_st (fun _ k => XS.iload X58.here hx rfl (hb hby at_51) rfl k) ?_
    show own_Go _ _ _ _ (T58.setTop (mkF m 53 #[.val (.int u0), .val (.int u1), .val (.int u2), .val (.int u3), .val (.int u4), .val (.int (3 : Int32)), .val (.int (u1.toInt8.toInt32)), .val (.int (u2.toInt8.toInt32)), .val (.int (u3.toInt8.toInt32)), .val (.int (u4.toInt8.toInt32)), .val (.ref b57), .unset] [(.int (u2.toInt8.toInt32)), (.int (1 : Int32)), (.ref b57)]))
    obtain ⟨cl59, Ar59, Kd59, Sz59, Nn59, Hs59, Gs59⟩ := id V58'
    obtain ⟨T59, h59, X59, e59, W59, st59⟩ := stB X58 hx hZ e58 Ar59 (j := (1 : Int32)) (inb_of Sz59 ⟨(by decide : ¬ ((1 : Int32) < (0 : Int32))), (by decide : (1 : Int32) < (3 : Int32))⟩) (g := (mkF m 53 #[.val (.int u0), .val (.int u1), .val (.int u2), .val (.int u3), .val (.int u4), .val (.int (3 : Int32)), .val (.int (u1.toInt8.toInt32)), .val (.int (u2.toInt8.toInt32)), .val (.int (u3.toInt8.toInt32)), .val (.int (u4.toInt8.toInt32)), .val (.ref b57), .unset] [(.int (u2.toInt8.toInt32)), (.int (1 : Int32)), (.ref b57)])) rfl rfl (hb hby at_53)
    refine own_st st59 ?_
    have V59 := Arv.set Ar59 Kd59 Sz59 Nn59 Hs59 Gs59 (fits_nar_byte _) W59 1 rfl (Nat.le_of_ble_eq_true rfl)
    have V59' : Arv Z h59 b57 k57 .byte (3 : Int32) [(.int (u1.toInt8.toInt32)), (.int (u2.toInt8.toInt32)), (.int (0 : Int32))] (.int (0 : Int32)) := by have q := V59; rw [own_narB] at q; exact q
    have Z59 : n0 ≤ h59.size := Nat.le_trans Z58 (Nat.le_of_eq W59.size.symm)
    have N59 := Fr.snoc X59 N58 gnb57
    have K59 : Keep h0 h59 [] := K58.wr W59 (Or.inr gkb57)
    show own_Go _ _ _ _ (T59.setTop (mkF m 54 #[.val (.int u0), .val (.int u1), .val (.int u2), .val (.int u3), .val (.int u4), .val (.int (3 : Int32)), .val (.int (u1.toInt8.toInt32)), .val (.int (u2.toInt8.toInt32)), .val (.int (u3.toInt8.toInt32)), .val (.int (u4.toInt8.toInt32)), .val (.ref b57), .unset] []))
    refine own_st (fun _ k => XS.iload X59.here hx rfl (hb hby at_54) rfl k) ?_
    show own_Go _ _ _ _ (T59.setTop (mkF m 56 #[.val (.int u0), .val (.int u1), .val (.int u2), .val (.int u3), .val (.int u4), .val (.int (3 : Int32)), .val (.int (u1.toInt8.toInt32)), .val (.int (u2.toInt8.toInt32)), .val (.int (u3.toInt8.toInt32)), .val (.int (u4.toInt8.toInt32)), .val (.ref b57), .unset] [(.int (3 : Int32))]))
    refine own_st (fun _ k => XS.iconst X59.here hx rfl (hb hby at_56) k) ?_
    show own_Go _ _ _ _ (T59.setTop (mkF m 57 #[.val (.int u0), .val (.int u1), .val (.int u2), .val (.int u3), .val (.int u4), .val (.int (3 : Int32)), .val (.int (u1.toInt8.toInt32)), .val (.int (u2.toInt8.toInt32)), .val (.int (u3.toInt8.toInt32)), .val (.int (u4.toInt8.toInt32)), .val (.ref b57), .unset] [(.int (2 : Int32)), (.int (3 : Int32))]))
    refine own_st (fun _ k => XS.icmpNo X59.here hx rfl (hb hby at_57) rfl (tlt (by decide : ((2 : Int32) < (3 : Int32)))).2.2.2 k) ?_
    show own_Go _ _ _ _ (T59.setTop (mkF m 60 #[.val (.int u0), .val (.int u1), .val (.int u2), .val (.int u3), .val (.int u4), .val (.int (3 : Int32)), .val (.int (u1.toInt8.toInt32)), .val (.int (u2.toInt8.toInt32)), .val (.int (u3.toInt8.toInt32)), .val (.int (u4.toInt8.toInt32)), .val (.ref b57), .unset] []))
    refine own_st (fun _ k => XS.aload X59.here hx rfl (hb hby at_60) rfl rfl k) ?_
    show own_Go _ _ _ _ (T59.setTop (mkF m 62 #[.val (.int u0), .val (.int u1), .val (.int u2), .val (.int u3), .val (.int u4), .val (.int (3 : Int32)), .val (.int (u1.toInt8.toInt32)), .val (.int (u2.toInt8.toInt32)), .val (.int (u3.toInt8.toInt32)), .val (.int (u4.toInt8.toInt32)), .val (.ref b57), .unset] [(.ref b57)]))
    refine own_st (fun _ k => XS.iconst X59.here hx rfl (hb hby at_62) k) ?_
    show own_Go _ _ _ _ (T59.setTop (mkF m 63 #[.val (.int u0), .val (.int u1), .val (.int u2), .val (.int u3), .val (.int u4), .val (.int (3 : Int32)), .val (.int (u1.toInt8.toInt32)), .val (.int (u2.toInt8.toInt32)), .val (.int (u3.toInt8.toInt32)), .val (.int (u4.toInt8.toInt32)), .val (.ref b57), .unset] [(.int (2 : Int32)), (.ref b57)]))
    refine own_st (fun _ k => XS.iload X59.here hx rfl (hb hby at_63) rfl k) ?_
    show own_Go _ _ _ _ (T59.setTop (mkF m 65 #[.val (.int u0), .val (.int u1), .val (.int u2), .val (.int u3), .val (.int u4), .val (.int (3 : Int32)), .val (.int (u1.toInt8.toInt32)), .val (.int (u2.toInt8.toInt32)), .val (.int (u3.toInt8.toInt32)), .val (.int (u4.toInt8.toInt32)), .val (.ref b57), .unset] [(.int (u3.toInt8.toInt32)), (.int (2 : Int32)), (.ref b57)]))
    obtain ⟨cl60, Ar60, Kd60, Sz60, Nn60, Hs60, Gs60⟩ := id V59'
    obtain ⟨T60, h60, X60, e60, W60, st60⟩ := stB X59 hx hZ e59 Ar60 (j := (2 : Int32)) (inb_of Sz60 ⟨(by decide : ¬ ((2 : Int32) < (0 : Int32))), (by decide : (2 : Int32) < (3 : Int32))⟩) (g := (mkF m 65 #[.val (.int u0), .val (.int u1), .val (.int u2), .val (.int u3), .val (.int u4), .val (.int (3 : Int32)), .val (.int (u1.toInt8.toInt32)), .val (.int (u2.toInt8.toInt32)), .val (.int (u3.toInt8.toInt32)), .val (.int (u4.toInt8.toInt32)), .val (.ref b57), .unset] [(.int (u3.toInt8.toInt32)), (.int (2 : Int32)), (.ref b57)])) rfl rfl (hb hby at_65)
    refine own_st st60 ?_
    have V60 := Arv.set Ar60 Kd60 Sz60 Nn60 Hs60 Gs60 (fits_nar_byte _) W60 2 rfl (Nat.le_of_ble_eq_true rfl)
    have V60' : Arv Z h60 b57 k57 .byte (3 : Int32) [(.int (u1.toInt8.toInt32)), (.int (u2.toInt8.toInt32)), (.int (u3.toInt8.toInt32))] (.int (0 : Int32)) := by have q := V60; rw [own_narB] at q; exact q
    have Z60 : n0 ≤ h60.size := Nat.le_trans Z59 (Nat.le_of_eq W60.size.symm)
    have N60 := Fr.snoc X60 N59 gnb57
    have K60 : Keep h0 h60 [] := K59.wr W60 (Or.inr gkb57)
    show own_Go _ _ _ _ (T60.setTop (mkF m 66 #[.val (.int u0), .val (.int u1), .val (.int u2), .val (.int u3), .val (.int u4), .val (.int (3 : Int32)), .val (.int (u1.toInt8.toInt32)), .val (.int (u2.toInt8.toInt32)), .val (.int (u3.toInt8.toInt32)), .val (.int (u4.toInt8.toInt32)), .val (.ref b57), .unset] []))
    refine own_st (fun _ k => XS.iload X60.here hx rfl (hb hby at_66) rfl k) ?_
    show own_Go _ _ _ _ (T60.setTop (mkF m 68 #[.val (.int u0), .val (.int u1), .val (.int u2), .val (.int u3), .val (.int u4), .val (.int (3 : Int32)), .val (.int (u1.toInt8.toInt32)), .val (.int (u2.toInt8.toInt32)), .val (.int (u3.toInt8.toInt32)), .val (.int (u4.toInt8.toInt32)), .val (.ref b57), .unset] [(.int (3 : Int32))]))
    refine own_st (fun _ k => XS.iconst X60.here hx rfl (hb hby at_68) k) ?_
    show own_Go _ _ _ _ (T60.setTop (mkF m 69 #[.val (.int u0), .val (.int u1), .val (.int u2), .val (.int u3), .val (.int u4), .val (.int (3 : Int32)), .val (.int (u1.toInt8.toInt32)), .val (.int (u2.toInt8.toInt32)), .val (.int (u3.toInt8.toInt32)), .val (.int (u4.toInt8.toInt32)), .val (.ref b57), .unset] [(.int (3 : Int32)), (.int (3 : Int32))]))
    refine own_st (fun _ k => XS.icmpYes X60.here hx rfl (pc0 := 69) (pc' := 78) rfl (hb hby at_69) rfl (flt (by decide : ¬ ((3 : Int32) < (3 : Int32)))).2.2.2 (by decide) (by decide) k) ?_
    show own_Go _ _ _ _ (T60.setTop (mkF m 78 #[.val (.int u0), .val (.int u1), .val (.int u2), .val (.int u3), .val (.int u4), .val (.int (3 : Int32)), .val (.int (u1.toInt8.toInt32)), .val (.int (u2.toInt8.toInt32)), .val (.int (u3.toInt8.toInt32)), .val (.int (u4.toInt8.toInt32)), .val (.ref b57), .unset] []))
    refine own_st (fun _ k => XS.iload X60.here hx rfl (hb hby at_78) rfl k) ?_
    show own_Go _ _ _ _ (T60.setTop (mkF m 80 #[.val (.int u0), .val (.int u1), .val (.int u2), .val (.int u3), .val (.int u4), .val (.int (3 : Int32)), .val (.int (u1.toInt8.toInt32)), .val (.int (u2.toInt8.toInt32)), .val (.int (u3.toInt8.toInt32)), .val (.int (u4.toInt8.toInt32)), .val (.ref b57), .unset] [(.int (3 : Int32))]))
    refine own_st (fun _ k => XS.iconst X60.here hx rfl (hb hby at_80) k) ?_
    show own_Go _ _ _ _ (T60.setTop (mkF m 81 #[.val (.int u0), .val (.int u1), .val (.int u2), .val (.int u3), .val (.int u4), .val (.int (3 : Int32)), .val (.int (u1.toInt8.toInt32)), .val (.int (u2.toInt8.toInt32)), .val (.int (u3.toInt8.toInt32)), .val (.int (u4.toInt8.toInt32)), .val (.ref b57), .unset] [(.int (1 : Int32)), (.int (3 : Int32))]))
    refine own_st (fun _ k => XS.icmpNo X60.here hx rfl (hb hby at_81) rfl (flt (by decide : ¬ ((3 : Int32) < (1 : Int32)))).1 k) ?_
    show own_Go _ _ _ _ (T60.setTop (mkF m 84 #[.val (.int u0), .val (.int u1), .val (.int u2), .val (.int u3), .val (.int u4), .val (.int (3 : Int32)), .val (.int (u1.toInt8.toInt32)), .val (.int (u2.toInt8.toInt32)), .val (.int (u3.toInt8.toInt32)), .val (.int (u4.toInt8.toInt32)), .val (.ref b57), .unset] []))
    refine own_st (fun _ k => XS.iload X60.here hx rfl (hb hby at_84) rfl k) ?_
    show own_Go _ _ _ _ (T60.setTop (mkF m 86 #[.val (.int u0), .val (.int u1), .val (.int u2), .val (.int u3), .val (.int u4), .val (.int (3 : Int32)), .val (.int (u1.toInt8.toInt32)), .val (.int (u2.toInt8.toInt32)), .val (.int (u3.toInt8.toInt32)), .val (.int (u4.toInt8.toInt32)), .val (.ref b57), .unset] [(.int (u1.toInt8.toInt32))]))
    obtain ⟨_, _, ⟨T61, L61, k61, n61⟩, -, X61, ⟨Lc61, hQ61, l61, y61, z61⟩, st61⟩ := Jvm.LawKit.callS X60 hx (y := (⟨"quillvax/mllp/MllpCarriesPinLaw", "clean", "(B)Z"⟩ : MethodName)) hown (mvT hZ (hw _ (List.mem_of_getElem? (i := 6) rfl))) (mvT hZ (hw _ (List.mem_of_getElem? (i := 7) rfl))) (mvT hZ (hw _ (List.mem_of_getElem? (i := 8) rfl))) (mvT hZ (hw _ (List.mem_of_getElem? (i := 9) rfl))) (by decide) (backOf (W := 0) (rm2 l Z a0 hw [] (u1.toInt8.toInt32) h60 n0 Z60 ) hZ (hw _ (List.mem_of_getElem? (i := 9) rfl)) (hw _ (List.mem_of_getElem? (i := 8) rfl)) (by decide) (by decide)) (g := (mkF m 86 #[.val (.int u0), .val (.int u1), .val (.int u2), .val (.int u3), .val (.int u4), .val (.int (3 : Int32)), .val (.int (u1.toInt8.toInt32)), .val (.int (u2.toInt8.toInt32)), .val (.int (u3.toInt8.toInt32)), .val (.int (u4.toInt8.toInt32)), .val (.ref b57), .unset] [(.int (u1.toInt8.toInt32))])) rfl (by rw [hml]; rfl) (argsL := [(.int (u1.toInt8.toInt32))]) (rest := []) (lenOf own_pd0 rfl) rfl (by show 2 * 0 + _ ≤ _; exact Nat.le_of_eq rfl) (hb hby at_86) (fun _ _ => ⟨rfl, e60, (by decide : 1 + 0 ≤ _), (by decide : 3 + 0 ≤ _)⟩)
    dsimp only [Pt.U, Pt.locs, Pt.cells, Pt.slots] at X61 l61 y61 z61 st61 hQ61
    subst l61 y61 z61
    obtain ⟨rfl, Nq61, eq61⟩ := hQ61
    have N61 := Fr.app N60 Nq61
    refine own_st st61 ?_
    show own_Go _ _ _ _ (T61.setTop (mkF m 89 #[.val (.int u0), .val (.int u1), .val (.int u2), .val (.int u3), .val (.int u4), .val (.int (3 : Int32)), .val (.int (u1.toInt8.toInt32)), .val (.int (u2.toInt8.toInt32)), .val (.int (u3.toInt8.toInt32)), .val (.int (u4.toInt8.toInt32)), .val (.ref b57), .unset] [(.int (own_cl (u1.toInt8.toInt32)))]))
    by_cases hc62 : (own_cl (u1.toInt8.toInt32)) = (0 : Int32)
    · skip
      refine own_st (fun _ k => XS.ifYes X61.here hx rfl (pc0 := 89) (pc' := 138) rfl (hb hby at_89) rfl ((if0 _ _).trans (teq hc62).1) (by decide) (by decide) k) ?_
      show own_Go _ _ _ _ (T61.setTop (mkF m 138 #[.val (.int u0), .val (.int u1), .val (.int u2), .val (.int u3), .val (.int u4), .val (.int (3 : Int32)), .val (.int (u1.toInt8.toInt32)), .val (.int (u2.toInt8.toInt32)), .val (.int (u3.toInt8.toInt32)), .val (.int (u4.toInt8.toInt32)), .val (.ref b57), .unset] []))
      refine own_st (fun _ k => XS.iconst X61.here hx rfl (hb hby at_138) k) ?_
      show own_Go _ _ _ _ (T61.setTop (mkF m 139 #[.val (.int u0), .val (.int u1), .val (.int u2), .val (.int u3), .val (.int u4), .val (.int (3 : Int32)), .val (.int (u1.toInt8.toInt32)), .val (.int (u2.toInt8.toInt32)), .val (.int (u3.toInt8.toInt32)), .val (.int (u4.toInt8.toInt32)), .val (.ref b57), .unset] [(.int (0 : Int32))]))
      refine own_st (fun _ k => XS.istore X61.here hx rfl (hb hby at_139) rfl (l' := #[.val (.int u0), .val (.int u1), .val (.int u2), .val (.int u3), .val (.int u4), .val (.int (3 : Int32)), .val (.int (u1.toInt8.toInt32)), .val (.int (u2.toInt8.toInt32)), .val (.int (u3.toInt8.toInt32)), .val (.int (u4.toInt8.toInt32)), .val (.ref b57), .val (.int (0 : Int32))]) rfl k) ?_
      show own_Go _ _ _ _ (T61.setTop (mkF m 141 #[.val (.int u0), .val (.int u1), .val (.int u2), .val (.int u3), .val (.int u4), .val (.int (3 : Int32)), .val (.int (u1.toInt8.toInt32)), .val (.int (u2.toInt8.toInt32)), .val (.int (u3.toInt8.toInt32)), .val (.int (u4.toInt8.toInt32)), .val (.ref b57), .val (.int (0 : Int32))] []))
      refine own_st (fun _ k => XS.aload X61.here hx rfl (hb hby at_141) rfl rfl k) ?_
      show own_Go _ _ _ _ (T61.setTop (mkF m 143 #[.val (.int u0), .val (.int u1), .val (.int u2), .val (.int u3), .val (.int u4), .val (.int (3 : Int32)), .val (.int (u1.toInt8.toInt32)), .val (.int (u2.toInt8.toInt32)), .val (.int (u3.toInt8.toInt32)), .val (.int (u4.toInt8.toInt32)), .val (.ref b57), .val (.int (0 : Int32))] [(.ref b57)]))
      obtain ⟨_, _, ⟨T63, L63, k63, n63⟩, -, X63, ⟨Lc63, hQ63, l63, y63, z63⟩, st63⟩ := Jvm.LawKit.callS X61 hx (y := (⟨"quillvax/mllp/Mllp", "carries", "([B)Z"⟩ : MethodName)) hown (mvT hZ (hw _ (List.mem_of_getElem? (i := 2) rfl))) (mvT hZ (hw _ (List.mem_of_getElem? (i := 3) rfl))) (mvT hZ (hw _ (List.mem_of_getElem? (i := 4) rfl))) (mvT hZ (hw _ (List.mem_of_getElem? (i := 5) rfl))) (by decide) (backOf (W := 0) (rm1_3 l Z a0 hw [] b57 k57 (u1.toInt8.toInt32) (u2.toInt8.toInt32) (u3.toInt8.toInt32) h60 n0 Z60 V60') hZ (hw _ (List.mem_of_getElem? (i := 5) rfl)) (hw _ (List.mem_of_getElem? (i := 4) rfl)) (by decide) (by decide)) (g := (mkF m 143 #[.val (.int u0), .val (.int u1), .val (.int u2), .val (.int u3), .val (.int u4), .val (.int (3 : Int32)), .val (.int (u1.toInt8.toInt32)), .val (.int (u2.toInt8.toInt32)), .val (.int (u3.toInt8.toInt32)), .val (.int (u4.toInt8.toInt32)), .val (.ref b57), .val (.int (0 : Int32))] [(.ref b57)])) rfl (by rw [hml]; rfl) (argsL := [(.ref b57)]) (rest := []) (lenOf own_pd1 rfl) rfl (by show 2 * 0 + _ ≤ _; exact Nat.le_of_eq rfl) (hb hby at_143) (fun _ _ => ⟨rfl, eq61, (by decide : 1 + 0 ≤ _), (by decide : 3 + 0 ≤ _)⟩)
      dsimp only [Pt.U, Pt.locs, Pt.cells, Pt.slots] at X63 l63 y63 z63 st63 hQ63
      subst l63 y63 z63
      obtain ⟨rfl, Nq63, eq63⟩ := hQ63
      have N63 := Fr.app N61 Nq63
      refine own_st st63 ?_
      show own_Go _ _ _ _ (T63.setTop (mkF m 146 #[.val (.int u0), .val (.int u1), .val (.int u2), .val (.int u3), .val (.int u4), .val (.int (3 : Int32)), .val (.int (u1.toInt8.toInt32)), .val (.int (u2.toInt8.toInt32)), .val (.int (u3.toInt8.toInt32)), .val (.int (u4.toInt8.toInt32)), .val (.ref b57), .val (.int (0 : Int32))] [(.int (own_ca3 (u1.toInt8.toInt32) (u2.toInt8.toInt32) (u3.toInt8.toInt32)))]))
      refine own_st (fun _ k => XS.iload X63.here hx rfl (hb hby at_146) rfl k) ?_
      show own_Go _ _ _ _ (T63.setTop (mkF m 148 #[.val (.int u0), .val (.int u1), .val (.int u2), .val (.int u3), .val (.int u4), .val (.int (3 : Int32)), .val (.int (u1.toInt8.toInt32)), .val (.int (u2.toInt8.toInt32)), .val (.int (u3.toInt8.toInt32)), .val (.int (u4.toInt8.toInt32)), .val (.ref b57), .val (.int (0 : Int32))] [(.int (0 : Int32)), (.int (own_ca3 (u1.toInt8.toInt32) (u2.toInt8.toInt32) (u3.toInt8.toInt32)))]))
      refine own_st (fun _ k => XS.icmpNo X63.here hx rfl (hb hby at_148) rfl (teq (by
          unfold own_ca3
          rcases (own_cl_iff u1).mp hc62 with z | z
          · rw [if_pos z]
          · rw [if_neg (by rw [z]; decide), if_pos z])).2 k) ?_
      show own_Go _ _ _ _ (T63.setTop (mkF m 151 #[.val (.int u0), .val (.int u1), .val (.int u2), .val (.int u3), .val (.int u4), .val (.int (3 : Int32)), .val (.int (u1.toInt8.toInt32)), .val (.int (u2.toInt8.toInt32)), .val (.int (u3.toInt8.toInt32)), .val (.int (u4.toInt8.toInt32)), .val (.ref b57), .val (.int (0 : Int32))] []))
      refine own_st (fun _ k => XS.iconst X63.here hx rfl (hb hby at_151) k) ?_
      show own_Go _ _ _ _ (T63.setTop (mkF m 152 #[.val (.int u0), .val (.int u1), .val (.int u2), .val (.int u3), .val (.int u4), .val (.int (3 : Int32)), .val (.int (u1.toInt8.toInt32)), .val (.int (u2.toInt8.toInt32)), .val (.int (u3.toInt8.toInt32)), .val (.int (u4.toInt8.toInt32)), .val (.ref b57), .val (.int (0 : Int32))] [(.int (1 : Int32))]))
      refine own_st (fun _ k => XS.goto X63.here hx rfl (pc0 := 152) (pc' := 156) rfl (hb hby at_152) (by decide) (by decide) k) ?_
      show own_Go _ _ _ _ (T63.setTop (mkF m 156 #[.val (.int u0), .val (.int u1), .val (.int u2), .val (.int u3), .val (.int u4), .val (.int (3 : Int32)), .val (.int (u1.toInt8.toInt32)), .val (.int (u2.toInt8.toInt32)), .val (.int (u3.toInt8.toInt32)), .val (.int (u4.toInt8.toInt32)), .val (.ref b57), .val (.int (0 : Int32))] [(.int (1 : Int32))]))
      obtain ⟨fs, hr, hrun, hended, hW, hsame⟩ := X63.leave (v := some (.int (1 : Int32))) (fun h => by rw [Bd.returns] at h; cases h)
      refine own_out (retN X63 hx (t := .boolean) Bd.returns (by simp) (hb hby at_156) hr) ⟨hrun, hended, _, _, rfl, ?_, ⟨_, rfl⟩, hW, hsame.mono (by decide) (by decide)⟩
      show Q0 Z u0 u1 u2 u3 u4 h0 n0 _ T63.heap _
      exact ⟨rfl, N63⟩
    · skip
      refine own_st (fun _ k => XS.ifNo X61.here hx rfl (hb hby at_89) rfl ((if0 _ _).trans (feq hc62).1) k) ?_
      show own_Go _ _ _ _ (T61.setTop (mkF m 92 #[.val (.int u0), .val (.int u1), .val (.int u2), .val (.int u3), .val (.int u4), .val (.int (3 : Int32)), .val (.int (u1.toInt8.toInt32)), .val (.int (u2.toInt8.toInt32)), .val (.int (u3.toInt8.toInt32)), .val (.int (u4.toInt8.toInt32)), .val (.ref b57), .unset] []))
      refine own_st (fun _ k => XS.iload X61.here hx rfl (hb hby at_92) rfl k) ?_
      show own_Go _ _ _ _ (T61.setTop (mkF m 94 #[.val (.int u0), .val (.int u1), .val (.int u2), .val (.int u3), .val (.int u4), .val (.int (3 : Int32)), .val (.int (u1.toInt8.toInt32)), .val (.int (u2.toInt8.toInt32)), .val (.int (u3.toInt8.toInt32)), .val (.int (u4.toInt8.toInt32)), .val (.ref b57), .unset] [(.int (3 : Int32))]))
      refine own_st (fun _ k => XS.iconst X61.here hx rfl (hb hby at_94) k) ?_
      show own_Go _ _ _ _ (T61.setTop (mkF m 95 #[.val (.int u0), .val (.int u1), .val (.int u2), .val (.int u3), .val (.int u4), .val (.int (3 : Int32)), .val (.int (u1.toInt8.toInt32)), .val (.int (u2.toInt8.toInt32)), .val (.int (u3.toInt8.toInt32)), .val (.int (u4.toInt8.toInt32)), .val (.ref b57), .unset] [(.int (2 : Int32)), (.int (3 : Int32))]))
      refine own_st (fun _ k => XS.icmpNo X61.here hx rfl (hb hby at_95) rfl (flt (by decide : ¬ ((3 : Int32) < (2 : Int32)))).1 k) ?_
      show own_Go _ _ _ _ (T61.setTop (mkF m 98 #[.val (.int u0), .val (.int u1), .val (.int u2), .val (.int u3), .val (.int u4), .val (.int (3 : Int32)), .val (.int (u1.toInt8.toInt32)), .val (.int (u2.toInt8.toInt32)), .val (.int (u3.toInt8.toInt32)), .val (.int (u4.toInt8.toInt32)), .val (.ref b57), .unset] []))
      refine own_st (fun _ k => XS.iload X61.here hx rfl (hb hby at_98) rfl k) ?_
      show own_Go _ _ _ _ (T61.setTop (mkF m 100 #[.val (.int u0), .val (.int u1), .val (.int u2), .val (.int u3), .val (.int u4), .val (.int (3 : Int32)), .val (.int (u1.toInt8.toInt32)), .val (.int (u2.toInt8.toInt32)), .val (.int (u3.toInt8.toInt32)), .val (.int (u4.toInt8.toInt32)), .val (.ref b57), .unset] [(.int (u2.toInt8.toInt32))]))
      obtain ⟨_, _, ⟨T64, L64, k64, n64⟩, -, X64, ⟨Lc64, hQ64, l64, y64, z64⟩, st64⟩ := Jvm.LawKit.callS X61 hx (y := (⟨"quillvax/mllp/MllpCarriesPinLaw", "clean", "(B)Z"⟩ : MethodName)) hown (mvT hZ (hw _ (List.mem_of_getElem? (i := 6) rfl))) (mvT hZ (hw _ (List.mem_of_getElem? (i := 7) rfl))) (mvT hZ (hw _ (List.mem_of_getElem? (i := 8) rfl))) (mvT hZ (hw _ (List.mem_of_getElem? (i := 9) rfl))) (by decide) (backOf (W := 0) (rm2 l Z a0 hw [] (u2.toInt8.toInt32) h60 n0 Z60 ) hZ (hw _ (List.mem_of_getElem? (i := 9) rfl)) (hw _ (List.mem_of_getElem? (i := 8) rfl)) (by decide) (by decide)) (g := (mkF m 100 #[.val (.int u0), .val (.int u1), .val (.int u2), .val (.int u3), .val (.int u4), .val (.int (3 : Int32)), .val (.int (u1.toInt8.toInt32)), .val (.int (u2.toInt8.toInt32)), .val (.int (u3.toInt8.toInt32)), .val (.int (u4.toInt8.toInt32)), .val (.ref b57), .unset] [(.int (u2.toInt8.toInt32))])) rfl (by rw [hml]; rfl) (argsL := [(.int (u2.toInt8.toInt32))]) (rest := []) (lenOf own_pd0 rfl) rfl (by show 2 * 0 + _ ≤ _; exact Nat.le_of_eq rfl) (hb hby at_100) (fun _ _ => ⟨rfl, eq61, (by decide : 1 + 0 ≤ _), (by decide : 3 + 0 ≤ _)⟩)
      dsimp only [Pt.U, Pt.locs, Pt.cells, Pt.slots] at X64 l64 y64 z64 st64 hQ64
      subst l64 y64 z64
      obtain ⟨rfl, Nq64, eq64⟩ := hQ64
      have N64 := Fr.app N61 Nq64
      refine own_st st64 ?_
      show own_Go _ _ _ _ (T64.setTop (mkF m 103 #[.val (.int u0), .val (.int u1), .val (.int u2), .val (.int u3), .val (.int u4), .val (.int (3 : Int32)), .val (.int (u1.toInt8.toInt32)), .val (.int (u2.toInt8.toInt32)), .val (.int (u3.toInt8.toInt32)), .val (.int (u4.toInt8.toInt32)), .val (.ref b57), .unset] [(.int (own_cl (u2.toInt8.toInt32)))]))
      by_cases hc65 : (own_cl (u2.toInt8.toInt32)) = (0 : Int32)
      · skip
        refine own_st (fun _ k => XS.ifYes X64.here hx rfl (pc0 := 103) (pc' := 138) rfl (hb hby at_103) rfl ((if0 _ _).trans (teq hc65).1) (by decide) (by decide) k) ?_
        show own_Go _ _ _ _ (T64.setTop (mkF m 138 #[.val (.int u0), .val (.int u1), .val (.int u2), .val (.int u3), .val (.int u4), .val (.int (3 : Int32)), .val (.int (u1.toInt8.toInt32)), .val (.int (u2.toInt8.toInt32)), .val (.int (u3.toInt8.toInt32)), .val (.int (u4.toInt8.toInt32)), .val (.ref b57), .unset] []))
        refine own_st (fun _ k => XS.iconst X64.here hx rfl (hb hby at_138) k) ?_
        show own_Go _ _ _ _ (T64.setTop (mkF m 139 #[.val (.int u0), .val (.int u1), .val (.int u2), .val (.int u3), .val (.int u4), .val (.int (3 : Int32)), .val (.int (u1.toInt8.toInt32)), .val (.int (u2.toInt8.toInt32)), .val (.int (u3.toInt8.toInt32)), .val (.int (u4.toInt8.toInt32)), .val (.ref b57), .unset] [(.int (0 : Int32))]))
        refine own_st (fun _ k => XS.istore X64.here hx rfl (hb hby at_139) rfl (l' := #[.val (.int u0), .val (.int u1), .val (.int u2), .val (.int u3), .val (.int u4), .val (.int (3 : Int32)), .val (.int (u1.toInt8.toInt32)), .val (.int (u2.toInt8.toInt32)), .val (.int (u3.toInt8.toInt32)), .val (.int (u4.toInt8.toInt32)), .val (.ref b57), .val (.int (0 : Int32))]) rfl k) ?_
        show own_Go _ _ _ _ (T64.setTop (mkF m 141 #[.val (.int u0), .val (.int u1), .val (.int u2), .val (.int u3), .val (.int u4), .val (.int (3 : Int32)), .val (.int (u1.toInt8.toInt32)), .val (.int (u2.toInt8.toInt32)), .val (.int (u3.toInt8.toInt32)), .val (.int (u4.toInt8.toInt32)), .val (.ref b57), .val (.int (0 : Int32))] []))
        refine own_st (fun _ k => XS.aload X64.here hx rfl (hb hby at_141) rfl rfl k) ?_
        show own_Go _ _ _ _ (T64.setTop (mkF m 143 #[.val (.int u0), .val (.int u1), .val (.int u2), .val (.int u3), .val (.int u4), .val (.int (3 : Int32)), .val (.int (u1.toInt8.toInt32)), .val (.int (u2.toInt8.toInt32)), .val (.int (u3.toInt8.toInt32)), .val (.int (u4.toInt8.toInt32)), .val (.ref b57), .val (.int (0 : Int32))] [(.ref b57)]))
        obtain ⟨_, _, ⟨T66, L66, k66, n66⟩, -, X66, ⟨Lc66, hQ66, l66, y66, z66⟩, st66⟩ := Jvm.LawKit.callS X64 hx (y := (⟨"quillvax/mllp/Mllp", "carries", "([B)Z"⟩ : MethodName)) hown (mvT hZ (hw _ (List.mem_of_getElem? (i := 2) rfl))) (mvT hZ (hw _ (List.mem_of_getElem? (i := 3) rfl))) (mvT hZ (hw _ (List.mem_of_getElem? (i := 4) rfl))) (mvT hZ (hw _ (List.mem_of_getElem? (i := 5) rfl))) (by decide) (backOf (W := 0) (rm1_3 l Z a0 hw [] b57 k57 (u1.toInt8.toInt32) (u2.toInt8.toInt32) (u3.toInt8.toInt32) h60 n0 Z60 V60') hZ (hw _ (List.mem_of_getElem? (i := 5) rfl)) (hw _ (List.mem_of_getElem? (i := 4) rfl)) (by decide) (by decide)) (g := (mkF m 143 #[.val (.int u0), .val (.int u1), .val (.int u2), .val (.int u3), .val (.int u4), .val (.int (3 : Int32)), .val (.int (u1.toInt8.toInt32)), .val (.int (u2.toInt8.toInt32)), .val (.int (u3.toInt8.toInt32)), .val (.int (u4.toInt8.toInt32)), .val (.ref b57), .val (.int (0 : Int32))] [(.ref b57)])) rfl (by rw [hml]; rfl) (argsL := [(.ref b57)]) (rest := []) (lenOf own_pd1 rfl) rfl (by show 2 * 0 + _ ≤ _; exact Nat.le_of_eq rfl) (hb hby at_143) (fun _ _ => ⟨rfl, eq64, (by decide : 1 + 0 ≤ _), (by decide : 3 + 0 ≤ _)⟩)
        dsimp only [Pt.U, Pt.locs, Pt.cells, Pt.slots] at X66 l66 y66 z66 st66 hQ66
        subst l66 y66 z66
        obtain ⟨rfl, Nq66, eq66⟩ := hQ66
        have N66 := Fr.app N64 Nq66
        refine own_st st66 ?_
        show own_Go _ _ _ _ (T66.setTop (mkF m 146 #[.val (.int u0), .val (.int u1), .val (.int u2), .val (.int u3), .val (.int u4), .val (.int (3 : Int32)), .val (.int (u1.toInt8.toInt32)), .val (.int (u2.toInt8.toInt32)), .val (.int (u3.toInt8.toInt32)), .val (.int (u4.toInt8.toInt32)), .val (.ref b57), .val (.int (0 : Int32))] [(.int (own_ca3 (u1.toInt8.toInt32) (u2.toInt8.toInt32) (u3.toInt8.toInt32)))]))
        refine own_st (fun _ k => XS.iload X66.here hx rfl (hb hby at_146) rfl k) ?_
        show own_Go _ _ _ _ (T66.setTop (mkF m 148 #[.val (.int u0), .val (.int u1), .val (.int u2), .val (.int u3), .val (.int u4), .val (.int (3 : Int32)), .val (.int (u1.toInt8.toInt32)), .val (.int (u2.toInt8.toInt32)), .val (.int (u3.toInt8.toInt32)), .val (.int (u4.toInt8.toInt32)), .val (.ref b57), .val (.int (0 : Int32))] [(.int (0 : Int32)), (.int (own_ca3 (u1.toInt8.toInt32) (u2.toInt8.toInt32) (u3.toInt8.toInt32)))]))
        refine own_st (fun _ k => XS.icmpNo X66.here hx rfl (hb hby at_148) rfl (teq (by
            unfold own_ca3
            rcases (own_cl_iff u2).mp hc65 with z | z
            · rw [if_neg (own_no u1 hc62).1, if_neg (own_no u1 hc62).2, if_pos z]
            · rw [if_neg (own_no u1 hc62).1, if_neg (own_no u1 hc62).2, if_neg (by rw [z]; decide), if_pos z])).2 k) ?_
        show own_Go _ _ _ _ (T66.setTop (mkF m 151 #[.val (.int u0), .val (.int u1), .val (.int u2), .val (.int u3), .val (.int u4), .val (.int (3 : Int32)), .val (.int (u1.toInt8.toInt32)), .val (.int (u2.toInt8.toInt32)), .val (.int (u3.toInt8.toInt32)), .val (.int (u4.toInt8.toInt32)), .val (.ref b57), .val (.int (0 : Int32))] []))
        refine own_st (fun _ k => XS.iconst X66.here hx rfl (hb hby at_151) k) ?_
        show own_Go _ _ _ _ (T66.setTop (mkF m 152 #[.val (.int u0), .val (.int u1), .val (.int u2), .val (.int u3), .val (.int u4), .val (.int (3 : Int32)), .val (.int (u1.toInt8.toInt32)), .val (.int (u2.toInt8.toInt32)), .val (.int (u3.toInt8.toInt32)), .val (.int (u4.toInt8.toInt32)), .val (.ref b57), .val (.int (0 : Int32))] [(.int (1 : Int32))]))
        refine own_st (fun _ k => XS.goto X66.here hx rfl (pc0 := 152) (pc' := 156) rfl (hb hby at_152) (by decide) (by decide) k) ?_
        show own_Go _ _ _ _ (T66.setTop (mkF m 156 #[.val (.int u0), .val (.int u1), .val (.int u2), .val (.int u3), .val (.int u4), .val (.int (3 : Int32)), .val (.int (u1.toInt8.toInt32)), .val (.int (u2.toInt8.toInt32)), .val (.int (u3.toInt8.toInt32)), .val (.int (u4.toInt8.toInt32)), .val (.ref b57), .val (.int (0 : Int32))] [(.int (1 : Int32))]))
        obtain ⟨fs, hr, hrun, hended, hW, hsame⟩ := X66.leave (v := some (.int (1 : Int32))) (fun h => by rw [Bd.returns] at h; cases h)
        refine own_out (retN X66 hx (t := .boolean) Bd.returns (by simp) (hb hby at_156) hr) ⟨hrun, hended, _, _, rfl, ?_, ⟨_, rfl⟩, hW, hsame.mono (by decide) (by decide)⟩
        show Q0 Z u0 u1 u2 u3 u4 h0 n0 _ T66.heap _
        exact ⟨rfl, N66⟩
      · skip
        refine own_st (fun _ k => XS.ifNo X64.here hx rfl (hb hby at_103) rfl ((if0 _ _).trans (feq hc65).1) k) ?_
        show own_Go _ _ _ _ (T64.setTop (mkF m 106 #[.val (.int u0), .val (.int u1), .val (.int u2), .val (.int u3), .val (.int u4), .val (.int (3 : Int32)), .val (.int (u1.toInt8.toInt32)), .val (.int (u2.toInt8.toInt32)), .val (.int (u3.toInt8.toInt32)), .val (.int (u4.toInt8.toInt32)), .val (.ref b57), .unset] []))
        refine own_st (fun _ k => XS.iload X64.here hx rfl (hb hby at_106) rfl k) ?_
        show own_Go _ _ _ _ (T64.setTop (mkF m 108 #[.val (.int u0), .val (.int u1), .val (.int u2), .val (.int u3), .val (.int u4), .val (.int (3 : Int32)), .val (.int (u1.toInt8.toInt32)), .val (.int (u2.toInt8.toInt32)), .val (.int (u3.toInt8.toInt32)), .val (.int (u4.toInt8.toInt32)), .val (.ref b57), .unset] [(.int (3 : Int32))]))
        refine own_st (fun _ k => XS.iconst X64.here hx rfl (hb hby at_108) k) ?_
        show own_Go _ _ _ _ (T64.setTop (mkF m 109 #[.val (.int u0), .val (.int u1), .val (.int u2), .val (.int u3), .val (.int u4), .val (.int (3 : Int32)), .val (.int (u1.toInt8.toInt32)), .val (.int (u2.toInt8.toInt32)), .val (.int (u3.toInt8.toInt32)), .val (.int (u4.toInt8.toInt32)), .val (.ref b57), .unset] [(.int (3 : Int32)), (.int (3 : Int32))]))
        refine own_st (fun _ k => XS.icmpNo X64.here hx rfl (hb hby at_109) rfl (flt (by decide : ¬ ((3 : Int32) < (3 : Int32)))).1 k) ?_
        show own_Go _ _ _ _ (T64.setTop (mkF m 112 #[.val (.int u0), .val (.int u1), .val (.int u2), .val (.int u3), .val (.int u4), .val (.int (3 : Int32)), .val (.int (u1.toInt8.toInt32)), .val (.int (u2.toInt8.toInt32)), .val (.int (u3.toInt8.toInt32)), .val (.int (u4.toInt8.toInt32)), .val (.ref b57), .unset] []))
        refine own_st (fun _ k => XS.iload X64.here hx rfl (hb hby at_112) rfl k) ?_
        show own_Go _ _ _ _ (T64.setTop (mkF m 114 #[.val (.int u0), .val (.int u1), .val (.int u2), .val (.int u3), .val (.int u4), .val (.int (3 : Int32)), .val (.int (u1.toInt8.toInt32)), .val (.int (u2.toInt8.toInt32)), .val (.int (u3.toInt8.toInt32)), .val (.int (u4.toInt8.toInt32)), .val (.ref b57), .unset] [(.int (u3.toInt8.toInt32))]))
        obtain ⟨_, _, ⟨T67, L67, k67, n67⟩, -, X67, ⟨Lc67, hQ67, l67, y67, z67⟩, st67⟩ := Jvm.LawKit.callS X64 hx (y := (⟨"quillvax/mllp/MllpCarriesPinLaw", "clean", "(B)Z"⟩ : MethodName)) hown (mvT hZ (hw _ (List.mem_of_getElem? (i := 6) rfl))) (mvT hZ (hw _ (List.mem_of_getElem? (i := 7) rfl))) (mvT hZ (hw _ (List.mem_of_getElem? (i := 8) rfl))) (mvT hZ (hw _ (List.mem_of_getElem? (i := 9) rfl))) (by decide) (backOf (W := 0) (rm2 l Z a0 hw [] (u3.toInt8.toInt32) h60 n0 Z60 ) hZ (hw _ (List.mem_of_getElem? (i := 9) rfl)) (hw _ (List.mem_of_getElem? (i := 8) rfl)) (by decide) (by decide)) (g := (mkF m 114 #[.val (.int u0), .val (.int u1), .val (.int u2), .val (.int u3), .val (.int u4), .val (.int (3 : Int32)), .val (.int (u1.toInt8.toInt32)), .val (.int (u2.toInt8.toInt32)), .val (.int (u3.toInt8.toInt32)), .val (.int (u4.toInt8.toInt32)), .val (.ref b57), .unset] [(.int (u3.toInt8.toInt32))])) rfl (by rw [hml]; rfl) (argsL := [(.int (u3.toInt8.toInt32))]) (rest := []) (lenOf own_pd0 rfl) rfl (by show 2 * 0 + _ ≤ _; exact Nat.le_of_eq rfl) (hb hby at_114) (fun _ _ => ⟨rfl, eq64, (by decide : 1 + 0 ≤ _), (by decide : 3 + 0 ≤ _)⟩)
        dsimp only [Pt.U, Pt.locs, Pt.cells, Pt.slots] at X67 l67 y67 z67 st67 hQ67
        subst l67 y67 z67
        obtain ⟨rfl, Nq67, eq67⟩ := hQ67
        have N67 := Fr.app N64 Nq67
        refine own_st st67 ?_
        show own_Go _ _ _ _ (T67.setTop (mkF m 117 #[.val (.int u0), .val (.int u1), .val (.int u2), .val (.int u3), .val (.int u4), .val (.int (3 : Int32)), .val (.int (u1.toInt8.toInt32)), .val (.int (u2.toInt8.toInt32)), .val (.int (u3.toInt8.toInt32)), .val (.int (u4.toInt8.toInt32)), .val (.ref b57), .unset] [(.int (own_cl (u3.toInt8.toInt32)))]))
        by_cases hc68 : (own_cl (u3.toInt8.toInt32)) = (0 : Int32)
        · skip
          refine own_st (fun _ k => XS.ifYes X67.here hx rfl (pc0 := 117) (pc' := 138) rfl (hb hby at_117) rfl ((if0 _ _).trans (teq hc68).1) (by decide) (by decide) k) ?_
          show own_Go _ _ _ _ (T67.setTop (mkF m 138 #[.val (.int u0), .val (.int u1), .val (.int u2), .val (.int u3), .val (.int u4), .val (.int (3 : Int32)), .val (.int (u1.toInt8.toInt32)), .val (.int (u2.toInt8.toInt32)), .val (.int (u3.toInt8.toInt32)), .val (.int (u4.toInt8.toInt32)), .val (.ref b57), .unset] []))
          refine own_st (fun _ k => XS.iconst X67.here hx rfl (hb hby at_138) k) ?_
          show own_Go _ _ _ _ (T67.setTop (mkF m 139 #[.val (.int u0), .val (.int u1), .val (.int u2), .val (.int u3), .val (.int u4), .val (.int (3 : Int32)), .val (.int (u1.toInt8.toInt32)), .val (.int (u2.toInt8.toInt32)), .val (.int (u3.toInt8.toInt32)), .val (.int (u4.toInt8.toInt32)), .val (.ref b57), .unset] [(.int (0 : Int32))]))
          refine own_st (fun _ k => XS.istore X67.here hx rfl (hb hby at_139) rfl (l' := #[.val (.int u0), .val (.int u1), .val (.int u2), .val (.int u3), .val (.int u4), .val (.int (3 : Int32)), .val (.int (u1.toInt8.toInt32)), .val (.int (u2.toInt8.toInt32)), .val (.int (u3.toInt8.toInt32)), .val (.int (u4.toInt8.toInt32)), .val (.ref b57), .val (.int (0 : Int32))]) rfl k) ?_
          show own_Go _ _ _ _ (T67.setTop (mkF m 141 #[.val (.int u0), .val (.int u1), .val (.int u2), .val (.int u3), .val (.int u4), .val (.int (3 : Int32)), .val (.int (u1.toInt8.toInt32)), .val (.int (u2.toInt8.toInt32)), .val (.int (u3.toInt8.toInt32)), .val (.int (u4.toInt8.toInt32)), .val (.ref b57), .val (.int (0 : Int32))] []))
          refine own_st (fun _ k => XS.aload X67.here hx rfl (hb hby at_141) rfl rfl k) ?_
          show own_Go _ _ _ _ (T67.setTop (mkF m 143 #[.val (.int u0), .val (.int u1), .val (.int u2), .val (.int u3), .val (.int u4), .val (.int (3 : Int32)), .val (.int (u1.toInt8.toInt32)), .val (.int (u2.toInt8.toInt32)), .val (.int (u3.toInt8.toInt32)), .val (.int (u4.toInt8.toInt32)), .val (.ref b57), .val (.int (0 : Int32))] [(.ref b57)]))
          obtain ⟨_, _, ⟨T69, L69, k69, n69⟩, -, X69, ⟨Lc69, hQ69, l69, y69, z69⟩, st69⟩ := Jvm.LawKit.callS X67 hx (y := (⟨"quillvax/mllp/Mllp", "carries", "([B)Z"⟩ : MethodName)) hown (mvT hZ (hw _ (List.mem_of_getElem? (i := 2) rfl))) (mvT hZ (hw _ (List.mem_of_getElem? (i := 3) rfl))) (mvT hZ (hw _ (List.mem_of_getElem? (i := 4) rfl))) (mvT hZ (hw _ (List.mem_of_getElem? (i := 5) rfl))) (by decide) (backOf (W := 0) (rm1_3 l Z a0 hw [] b57 k57 (u1.toInt8.toInt32) (u2.toInt8.toInt32) (u3.toInt8.toInt32) h60 n0 Z60 V60') hZ (hw _ (List.mem_of_getElem? (i := 5) rfl)) (hw _ (List.mem_of_getElem? (i := 4) rfl)) (by decide) (by decide)) (g := (mkF m 143 #[.val (.int u0), .val (.int u1), .val (.int u2), .val (.int u3), .val (.int u4), .val (.int (3 : Int32)), .val (.int (u1.toInt8.toInt32)), .val (.int (u2.toInt8.toInt32)), .val (.int (u3.toInt8.toInt32)), .val (.int (u4.toInt8.toInt32)), .val (.ref b57), .val (.int (0 : Int32))] [(.ref b57)])) rfl (by rw [hml]; rfl) (argsL := [(.ref b57)]) (rest := []) (lenOf own_pd1 rfl) rfl (by show 2 * 0 + _ ≤ _; exact Nat.le_of_eq rfl) (hb hby at_143) (fun _ _ => ⟨rfl, eq67, (by decide : 1 + 0 ≤ _), (by decide : 3 + 0 ≤ _)⟩)
          dsimp only [Pt.U, Pt.locs, Pt.cells, Pt.slots] at X69 l69 y69 z69 st69 hQ69
          subst l69 y69 z69
          obtain ⟨rfl, Nq69, eq69⟩ := hQ69
          have N69 := Fr.app N67 Nq69
          refine own_st st69 ?_
          show own_Go _ _ _ _ (T69.setTop (mkF m 146 #[.val (.int u0), .val (.int u1), .val (.int u2), .val (.int u3), .val (.int u4), .val (.int (3 : Int32)), .val (.int (u1.toInt8.toInt32)), .val (.int (u2.toInt8.toInt32)), .val (.int (u3.toInt8.toInt32)), .val (.int (u4.toInt8.toInt32)), .val (.ref b57), .val (.int (0 : Int32))] [(.int (own_ca3 (u1.toInt8.toInt32) (u2.toInt8.toInt32) (u3.toInt8.toInt32)))]))
          refine own_st (fun _ k => XS.iload X69.here hx rfl (hb hby at_146) rfl k) ?_
          show own_Go _ _ _ _ (T69.setTop (mkF m 148 #[.val (.int u0), .val (.int u1), .val (.int u2), .val (.int u3), .val (.int u4), .val (.int (3 : Int32)), .val (.int (u1.toInt8.toInt32)), .val (.int (u2.toInt8.toInt32)), .val (.int (u3.toInt8.toInt32)), .val (.int (u4.toInt8.toInt32)), .val (.ref b57), .val (.int (0 : Int32))] [(.int (0 : Int32)), (.int (own_ca3 (u1.toInt8.toInt32) (u2.toInt8.toInt32) (u3.toInt8.toInt32)))]))
          refine own_st (fun _ k => XS.icmpNo X69.here hx rfl (hb hby at_148) rfl (teq (by
              unfold own_ca3
              rcases (own_cl_iff u3).mp hc68 with z | z
              · rw [if_neg (own_no u1 hc62).1, if_neg (own_no u1 hc62).2, if_neg (own_no u2 hc65).1, if_neg (own_no u2 hc65).2, if_pos z]
              · rw [if_neg (own_no u1 hc62).1, if_neg (own_no u1 hc62).2, if_neg (own_no u2 hc65).1, if_neg (own_no u2 hc65).2, if_neg (by rw [z]; decide), if_pos z])).2 k) ?_
          show own_Go _ _ _ _ (T69.setTop (mkF m 151 #[.val (.int u0), .val (.int u1), .val (.int u2), .val (.int u3), .val (.int u4), .val (.int (3 : Int32)), .val (.int (u1.toInt8.toInt32)), .val (.int (u2.toInt8.toInt32)), .val (.int (u3.toInt8.toInt32)), .val (.int (u4.toInt8.toInt32)), .val (.ref b57), .val (.int (0 : Int32))] []))
          refine own_st (fun _ k => XS.iconst X69.here hx rfl (hb hby at_151) k) ?_
          show own_Go _ _ _ _ (T69.setTop (mkF m 152 #[.val (.int u0), .val (.int u1), .val (.int u2), .val (.int u3), .val (.int u4), .val (.int (3 : Int32)), .val (.int (u1.toInt8.toInt32)), .val (.int (u2.toInt8.toInt32)), .val (.int (u3.toInt8.toInt32)), .val (.int (u4.toInt8.toInt32)), .val (.ref b57), .val (.int (0 : Int32))] [(.int (1 : Int32))]))
          refine own_st (fun _ k => XS.goto X69.here hx rfl (pc0 := 152) (pc' := 156) rfl (hb hby at_152) (by decide) (by decide) k) ?_
          show own_Go _ _ _ _ (T69.setTop (mkF m 156 #[.val (.int u0), .val (.int u1), .val (.int u2), .val (.int u3), .val (.int u4), .val (.int (3 : Int32)), .val (.int (u1.toInt8.toInt32)), .val (.int (u2.toInt8.toInt32)), .val (.int (u3.toInt8.toInt32)), .val (.int (u4.toInt8.toInt32)), .val (.ref b57), .val (.int (0 : Int32))] [(.int (1 : Int32))]))
          obtain ⟨fs, hr, hrun, hended, hW, hsame⟩ := X69.leave (v := some (.int (1 : Int32))) (fun h => by rw [Bd.returns] at h; cases h)
          refine own_out (retN X69 hx (t := .boolean) Bd.returns (by simp) (hb hby at_156) hr) ⟨hrun, hended, _, _, rfl, ?_, ⟨_, rfl⟩, hW, hsame.mono (by decide) (by decide)⟩
          show Q0 Z u0 u1 u2 u3 u4 h0 n0 _ T69.heap _
          exact ⟨rfl, N69⟩
        · skip
          refine own_st (fun _ k => XS.ifNo X67.here hx rfl (hb hby at_117) rfl ((if0 _ _).trans (feq hc68).1) k) ?_
          show own_Go _ _ _ _ (T67.setTop (mkF m 120 #[.val (.int u0), .val (.int u1), .val (.int u2), .val (.int u3), .val (.int u4), .val (.int (3 : Int32)), .val (.int (u1.toInt8.toInt32)), .val (.int (u2.toInt8.toInt32)), .val (.int (u3.toInt8.toInt32)), .val (.int (u4.toInt8.toInt32)), .val (.ref b57), .unset] []))
          refine own_st (fun _ k => XS.iload X67.here hx rfl (hb hby at_120) rfl k) ?_
          show own_Go _ _ _ _ (T67.setTop (mkF m 122 #[.val (.int u0), .val (.int u1), .val (.int u2), .val (.int u3), .val (.int u4), .val (.int (3 : Int32)), .val (.int (u1.toInt8.toInt32)), .val (.int (u2.toInt8.toInt32)), .val (.int (u3.toInt8.toInt32)), .val (.int (u4.toInt8.toInt32)), .val (.ref b57), .unset] [(.int (3 : Int32))]))
          refine own_st (fun _ k => XS.iconst X67.here hx rfl (hb hby at_122) k) ?_
          show own_Go _ _ _ _ (T67.setTop (mkF m 123 #[.val (.int u0), .val (.int u1), .val (.int u2), .val (.int u3), .val (.int u4), .val (.int (3 : Int32)), .val (.int (u1.toInt8.toInt32)), .val (.int (u2.toInt8.toInt32)), .val (.int (u3.toInt8.toInt32)), .val (.int (u4.toInt8.toInt32)), .val (.ref b57), .unset] [(.int (4 : Int32)), (.int (3 : Int32))]))
          refine own_st (fun _ k => XS.icmpYes X67.here hx rfl (pc0 := 123) (pc' := 134) rfl (hb hby at_123) rfl (tlt (by decide : ((3 : Int32) < (4 : Int32)))).1 (by decide) (by decide) k) ?_
          show own_Go _ _ _ _ (T67.setTop (mkF m 134 #[.val (.int u0), .val (.int u1), .val (.int u2), .val (.int u3), .val (.int u4), .val (.int (3 : Int32)), .val (.int (u1.toInt8.toInt32)), .val (.int (u2.toInt8.toInt32)), .val (.int (u3.toInt8.toInt32)), .val (.int (u4.toInt8.toInt32)), .val (.ref b57), .unset] []))
          refine own_st (fun _ k => XS.iconst X67.here hx rfl (hb hby at_134) k) ?_
          show own_Go _ _ _ _ (T67.setTop (mkF m 135 #[.val (.int u0), .val (.int u1), .val (.int u2), .val (.int u3), .val (.int u4), .val (.int (3 : Int32)), .val (.int (u1.toInt8.toInt32)), .val (.int (u2.toInt8.toInt32)), .val (.int (u3.toInt8.toInt32)), .val (.int (u4.toInt8.toInt32)), .val (.ref b57), .unset] [(.int (1 : Int32))]))
          refine own_st (fun _ k => XS.goto X67.here hx rfl (pc0 := 135) (pc' := 139) rfl (hb hby at_135) (by decide) (by decide) k) ?_
          show own_Go _ _ _ _ (T67.setTop (mkF m 139 #[.val (.int u0), .val (.int u1), .val (.int u2), .val (.int u3), .val (.int u4), .val (.int (3 : Int32)), .val (.int (u1.toInt8.toInt32)), .val (.int (u2.toInt8.toInt32)), .val (.int (u3.toInt8.toInt32)), .val (.int (u4.toInt8.toInt32)), .val (.ref b57), .unset] [(.int (1 : Int32))]))
          refine own_st (fun _ k => XS.istore X67.here hx rfl (hb hby at_139) rfl (l' := #[.val (.int u0), .val (.int u1), .val (.int u2), .val (.int u3), .val (.int u4), .val (.int (3 : Int32)), .val (.int (u1.toInt8.toInt32)), .val (.int (u2.toInt8.toInt32)), .val (.int (u3.toInt8.toInt32)), .val (.int (u4.toInt8.toInt32)), .val (.ref b57), .val (.int (1 : Int32))]) rfl k) ?_
          show own_Go _ _ _ _ (T67.setTop (mkF m 141 #[.val (.int u0), .val (.int u1), .val (.int u2), .val (.int u3), .val (.int u4), .val (.int (3 : Int32)), .val (.int (u1.toInt8.toInt32)), .val (.int (u2.toInt8.toInt32)), .val (.int (u3.toInt8.toInt32)), .val (.int (u4.toInt8.toInt32)), .val (.ref b57), .val (.int (1 : Int32))] []))
          refine own_st (fun _ k => XS.aload X67.here hx rfl (hb hby at_141) rfl rfl k) ?_
          show own_Go _ _ _ _ (T67.setTop (mkF m 143 #[.val (.int u0), .val (.int u1), .val (.int u2), .val (.int u3), .val (.int u4), .val (.int (3 : Int32)), .val (.int (u1.toInt8.toInt32)), .val (.int (u2.toInt8.toInt32)), .val (.int (u3.toInt8.toInt32)), .val (.int (u4.toInt8.toInt32)), .val (.ref b57), .val (.int (1 : Int32))] [(.ref b57)]))
          obtain ⟨_, _, ⟨T70, L70, k70, n70⟩, -, X70, ⟨Lc70, hQ70, l70, y70, z70⟩, st70⟩ := Jvm.LawKit.callS X67 hx (y := (⟨"quillvax/mllp/Mllp", "carries", "([B)Z"⟩ : MethodName)) hown (mvT hZ (hw _ (List.mem_of_getElem? (i := 2) rfl))) (mvT hZ (hw _ (List.mem_of_getElem? (i := 3) rfl))) (mvT hZ (hw _ (List.mem_of_getElem? (i := 4) rfl))) (mvT hZ (hw _ (List.mem_of_getElem? (i := 5) rfl))) (by decide) (backOf (W := 0) (rm1_3 l Z a0 hw [] b57 k57 (u1.toInt8.toInt32) (u2.toInt8.toInt32) (u3.toInt8.toInt32) h60 n0 Z60 V60') hZ (hw _ (List.mem_of_getElem? (i := 5) rfl)) (hw _ (List.mem_of_getElem? (i := 4) rfl)) (by decide) (by decide)) (g := (mkF m 143 #[.val (.int u0), .val (.int u1), .val (.int u2), .val (.int u3), .val (.int u4), .val (.int (3 : Int32)), .val (.int (u1.toInt8.toInt32)), .val (.int (u2.toInt8.toInt32)), .val (.int (u3.toInt8.toInt32)), .val (.int (u4.toInt8.toInt32)), .val (.ref b57), .val (.int (1 : Int32))] [(.ref b57)])) rfl (by rw [hml]; rfl) (argsL := [(.ref b57)]) (rest := []) (lenOf own_pd1 rfl) rfl (by show 2 * 0 + _ ≤ _; exact Nat.le_of_eq rfl) (hb hby at_143) (fun _ _ => ⟨rfl, eq67, (by decide : 1 + 0 ≤ _), (by decide : 3 + 0 ≤ _)⟩)
          dsimp only [Pt.U, Pt.locs, Pt.cells, Pt.slots] at X70 l70 y70 z70 st70 hQ70
          subst l70 y70 z70
          obtain ⟨rfl, Nq70, eq70⟩ := hQ70
          have N70 := Fr.app N67 Nq70
          refine own_st st70 ?_
          show own_Go _ _ _ _ (T70.setTop (mkF m 146 #[.val (.int u0), .val (.int u1), .val (.int u2), .val (.int u3), .val (.int u4), .val (.int (3 : Int32)), .val (.int (u1.toInt8.toInt32)), .val (.int (u2.toInt8.toInt32)), .val (.int (u3.toInt8.toInt32)), .val (.int (u4.toInt8.toInt32)), .val (.ref b57), .val (.int (1 : Int32))] [(.int (own_ca3 (u1.toInt8.toInt32) (u2.toInt8.toInt32) (u3.toInt8.toInt32)))]))
          refine own_st (fun _ k => XS.iload X70.here hx rfl (hb hby at_146) rfl k) ?_
          show own_Go _ _ _ _ (T70.setTop (mkF m 148 #[.val (.int u0), .val (.int u1), .val (.int u2), .val (.int u3), .val (.int u4), .val (.int (3 : Int32)), .val (.int (u1.toInt8.toInt32)), .val (.int (u2.toInt8.toInt32)), .val (.int (u3.toInt8.toInt32)), .val (.int (u4.toInt8.toInt32)), .val (.ref b57), .val (.int (1 : Int32))] [(.int (1 : Int32)), (.int (own_ca3 (u1.toInt8.toInt32) (u2.toInt8.toInt32) (u3.toInt8.toInt32)))]))
          refine own_st (fun _ k => XS.icmpNo X70.here hx rfl (hb hby at_148) rfl (teq (by unfold own_ca3; rw [if_neg (own_no u1 hc62).1, if_neg (own_no u1 hc62).2, if_neg (own_no u2 hc65).1, if_neg (own_no u2 hc65).2, if_neg (own_no u3 hc68).1, if_neg (own_no u3 hc68).2])).2 k) ?_
          show own_Go _ _ _ _ (T70.setTop (mkF m 151 #[.val (.int u0), .val (.int u1), .val (.int u2), .val (.int u3), .val (.int u4), .val (.int (3 : Int32)), .val (.int (u1.toInt8.toInt32)), .val (.int (u2.toInt8.toInt32)), .val (.int (u3.toInt8.toInt32)), .val (.int (u4.toInt8.toInt32)), .val (.ref b57), .val (.int (1 : Int32))] []))
          refine own_st (fun _ k => XS.iconst X70.here hx rfl (hb hby at_151) k) ?_
          show own_Go _ _ _ _ (T70.setTop (mkF m 152 #[.val (.int u0), .val (.int u1), .val (.int u2), .val (.int u3), .val (.int u4), .val (.int (3 : Int32)), .val (.int (u1.toInt8.toInt32)), .val (.int (u2.toInt8.toInt32)), .val (.int (u3.toInt8.toInt32)), .val (.int (u4.toInt8.toInt32)), .val (.ref b57), .val (.int (1 : Int32))] [(.int (1 : Int32))]))
          refine own_st (fun _ k => XS.goto X70.here hx rfl (pc0 := 152) (pc' := 156) rfl (hb hby at_152) (by decide) (by decide) k) ?_
          show own_Go _ _ _ _ (T70.setTop (mkF m 156 #[.val (.int u0), .val (.int u1), .val (.int u2), .val (.int u3), .val (.int u4), .val (.int (3 : Int32)), .val (.int (u1.toInt8.toInt32)), .val (.int (u2.toInt8.toInt32)), .val (.int (u3.toInt8.toInt32)), .val (.int (u4.toInt8.toInt32)), .val (.ref b57), .val (.int (1 : Int32))] [(.int (1 : Int32))]))
          obtain ⟨fs, hr, hrun, hended, hW, hsame⟩ := X70.leave (v := some (.int (1 : Int32))) (fun h => by rw [Bd.returns] at h; cases h)
          refine own_out (retN X70 hx (t := .boolean) Bd.returns (by simp) (hb hby at_156) hr) ⟨hrun, hended, _, _, rfl, ?_, ⟨_, rfl⟩, hW, hsame.mono (by decide) (by decide)⟩
          show Q0 Z u0 u1 u2 u3 u4 h0 n0 _ T70.heap _
          exact ⟨rfl, N70⟩
  · skip
    rw [hs38]
    show own_Go _ _ _ _ (s₁.setTop (mkF m 8 #[.val (.int u0), .val (.int u1), .val (.int u2), .val (.int u3), .val (.int u4), .val (.int (4 : Int32)), .unset, .unset, .unset, .unset, .unset, .unset] []))
    refine own_st (fun _ k => XS.iloadN X0.here hx rfl (hb hby at_8) rfl k) ?_
    show own_Go _ _ _ _ (s₁.setTop (mkF m 9 #[.val (.int u0), .val (.int u1), .val (.int u2), .val (.int u3), .val (.int u4), .val (.int (4 : Int32)), .unset, .unset, .unset, .unset, .unset, .unset] [(.int u1)]))
    refine own_st (fun _ k => XS.i2b X0.here hx rfl (hb hby at_9) rfl k) ?_
    show own_Go _ _ _ _ (s₁.setTop (mkF m 10 #[.val (.int u0), .val (.int u1), .val (.int u2), .val (.int u3), .val (.int u4), .val (.int (4 : Int32)), .unset, .unset, .unset, .unset, .unset, .unset] [(.int (u1.toInt8.toInt32))]))
    refine own_st (fun _ k => XS.istore X0.here hx rfl (hb hby at_10) rfl (l' := #[.val (.int u0), .val (.int u1), .val (.int u2), .val (.int u3), .val (.int u4), .val (.int (4 : Int32)), .val (.int (u1.toInt8.toInt32)), .unset, .unset, .unset, .unset, .unset]) rfl k) ?_
    show own_Go _ _ _ _ (s₁.setTop (mkF m 12 #[.val (.int u0), .val (.int u1), .val (.int u2), .val (.int u3), .val (.int u4), .val (.int (4 : Int32)), .val (.int (u1.toInt8.toInt32)), .unset, .unset, .unset, .unset, .unset] []))
    refine own_st (fun _ k => XS.iloadN X0.here hx rfl (hb hby at_12) rfl k) ?_
    show own_Go _ _ _ _ (s₁.setTop (mkF m 13 #[.val (.int u0), .val (.int u1), .val (.int u2), .val (.int u3), .val (.int u4), .val (.int (4 : Int32)), .val (.int (u1.toInt8.toInt32)), .unset, .unset, .unset, .unset, .unset] [(.int u2)]))
    refine own_st (fun _ k => XS.i2b X0.here hx rfl (hb hby at_13) rfl k) ?_
    show own_Go _ _ _ _ (s₁.setTop (mkF m 14 #[.val (.int u0), .val (.int u1), .val (.int u2), .val (.int u3), .val (.int u4), .val (.int (4 : Int32)), .val (.int (u1.toInt8.toInt32)), .unset, .unset, .unset, .unset, .unset] [(.int (u2.toInt8.toInt32))]))
    refine own_st (fun _ k => XS.istore X0.here hx rfl (hb hby at_14) rfl (l' := #[.val (.int u0), .val (.int u1), .val (.int u2), .val (.int u3), .val (.int u4), .val (.int (4 : Int32)), .val (.int (u1.toInt8.toInt32)), .val (.int (u2.toInt8.toInt32)), .unset, .unset, .unset, .unset]) rfl k) ?_
    show own_Go _ _ _ _ (s₁.setTop (mkF m 16 #[.val (.int u0), .val (.int u1), .val (.int u2), .val (.int u3), .val (.int u4), .val (.int (4 : Int32)), .val (.int (u1.toInt8.toInt32)), .val (.int (u2.toInt8.toInt32)), .unset, .unset, .unset, .unset] []))
    refine own_st (fun _ k => XS.iloadN X0.here hx rfl (hb hby at_16) rfl k) ?_
    show own_Go _ _ _ _ (s₁.setTop (mkF m 17 #[.val (.int u0), .val (.int u1), .val (.int u2), .val (.int u3), .val (.int u4), .val (.int (4 : Int32)), .val (.int (u1.toInt8.toInt32)), .val (.int (u2.toInt8.toInt32)), .unset, .unset, .unset, .unset] [(.int u3)]))
    refine own_st (fun _ k => XS.i2b X0.here hx rfl (hb hby at_17) rfl k) ?_
    show own_Go _ _ _ _ (s₁.setTop (mkF m 18 #[.val (.int u0), .val (.int u1), .val (.int u2), .val (.int u3), .val (.int u4), .val (.int (4 : Int32)), .val (.int (u1.toInt8.toInt32)), .val (.int (u2.toInt8.toInt32)), .unset, .unset, .unset, .unset] [(.int (u3.toInt8.toInt32))]))
    refine own_st (fun _ k => XS.istore X0.here hx rfl (hb hby at_18) rfl (l' := #[.val (.int u0), .val (.int u1), .val (.int u2), .val (.int u3), .val (.int u4), .val (.int (4 : Int32)), .val (.int (u1.toInt8.toInt32)), .val (.int (u2.toInt8.toInt32)), .val (.int (u3.toInt8.toInt32)), .unset, .unset, .unset]) rfl k) ?_
    show own_Go _ _ _ _ (s₁.setTop (mkF m 20 #[.val (.int u0), .val (.int u1), .val (.int u2), .val (.int u3), .val (.int u4), .val (.int (4 : Int32)), .val (.int (u1.toInt8.toInt32)), .val (.int (u2.toInt8.toInt32)), .val (.int (u3.toInt8.toInt32)), .unset, .unset, .unset] []))
    refine own_st (fun _ k => XS.iload X0.here hx rfl (hb hby at_20) rfl k) ?_
    show own_Go _ _ _ _ (s₁.setTop (mkF m 22 #[.val (.int u0), .val (.int u1), .val (.int u2), .val (.int u3), .val (.int u4), .val (.int (4 : Int32)), .val (.int (u1.toInt8.toInt32)), .val (.int (u2.toInt8.toInt32)), .val (.int (u3.toInt8.toInt32)), .unset, .unset, .unset] [(.int u4)]))
    refine own_st (fun _ k => XS.i2b X0.here hx rfl (hb hby at_22) rfl k) ?_
    show own_Go _ _ _ _ (s₁.setTop (mkF m 23 #[.val (.int u0), .val (.int u1), .val (.int u2), .val (.int u3), .val (.int u4), .val (.int (4 : Int32)), .val (.int (u1.toInt8.toInt32)), .val (.int (u2.toInt8.toInt32)), .val (.int (u3.toInt8.toInt32)), .unset, .unset, .unset] [(.int (u4.toInt8.toInt32))]))
    refine own_st (fun _ k => XS.istore X0.here hx rfl (hb hby at_23) rfl (l' := #[.val (.int u0), .val (.int u1), .val (.int u2), .val (.int u3), .val (.int u4), .val (.int (4 : Int32)), .val (.int (u1.toInt8.toInt32)), .val (.int (u2.toInt8.toInt32)), .val (.int (u3.toInt8.toInt32)), .val (.int (u4.toInt8.toInt32)), .unset, .unset]) rfl k) ?_
    show own_Go _ _ _ _ (s₁.setTop (mkF m 25 #[.val (.int u0), .val (.int u1), .val (.int u2), .val (.int u3), .val (.int u4), .val (.int (4 : Int32)), .val (.int (u1.toInt8.toInt32)), .val (.int (u2.toInt8.toInt32)), .val (.int (u3.toInt8.toInt32)), .val (.int (u4.toInt8.toInt32)), .unset, .unset] []))
    refine own_st (fun _ k => XS.iload X0.here hx rfl (hb hby at_25) rfl k) ?_
    show own_Go _ _ _ _ (s₁.setTop (mkF m 27 #[.val (.int u0), .val (.int u1), .val (.int u2), .val (.int u3), .val (.int u4), .val (.int (4 : Int32)), .val (.int (u1.toInt8.toInt32)), .val (.int (u2.toInt8.toInt32)), .val (.int (u3.toInt8.toInt32)), .val (.int (u4.toInt8.toInt32)), .unset, .unset] [(.int (4 : Int32))]))
    obtain ⟨T71, h71, k71, X71, e71, E71, A71, st71⟩ := newP X0 hx hZ (hw _ (List.mem_of_getElem? (i := 1) rfl)) e0 (g := (mkF m 27 #[.val (.int u0), .val (.int u1), .val (.int u2), .val (.int u3), .val (.int u4), .val (.int (4 : Int32)), .val (.int (u1.toInt8.toInt32)), .val (.int (u2.toInt8.toInt32)), .val (.int (u3.toInt8.toInt32)), .val (.int (u4.toInt8.toInt32)), .unset, .unset] [(.int (4 : Int32))])) rfl (hb hby at_27) rfl (by decide : ¬ ((4 : Int32) < (0 : Int32))) (cap := 4) (by decide : ((4 : Int32)).toNatClampNeg ≤ 4) (by decide) (by decide) (by decide)
    obtain ⟨b71, g71⟩ : ∃ z, z = h0.size := ⟨_, rfl⟩
    rw [← g71] at A71 st71
    refine own_st st71 ?_
    have Z71 : n0 ≤ h71.size := Nat.le_trans Z0 E71.1
    have gnb71 : n0 ≤ b71 := Nat.le_trans Z0 (Nat.le_of_eq g71.symm)
    have gkb71 : h0.size ≤ b71 := Nat.le_trans K0.1 (Nat.le_of_eq g71.symm)
    have K71 : Keep h0 h71 [] := K0.ext E71
    have V71 : Arv Z h71 b71 k71 .byte (4 : Int32) [(.int (0 : Int32)), (.int (0 : Int32)), (.int (0 : Int32)), (.int (0 : Int32))] (.int (0 : Int32)) := (Arv.new A71 (by decide : ¬ ((4 : Int32) < (0 : Int32)))).pad (pad_rep [] (.int (0 : Int32)) 4)
    show own_Go _ _ _ _ (T71.setTop (mkF m 29 #[.val (.int u0), .val (.int u1), .val (.int u2), .val (.int u3), .val (.int u4), .val (.int (4 : Int32)), .val (.int (u1.toInt8.toInt32)), .val (.int (u2.toInt8.toInt32)), .val (.int (u3.toInt8.toInt32)), .val (.int (u4.toInt8.toInt32)), .unset, .unset] [(.ref b71)]))
    refine own_st (fun _ k => XS.astore X71.here hx rfl (hb hby at_29) rfl rfl (l' := #[.val (.int u0), .val (.int u1), .val (.int u2), .val (.int u3), .val (.int u4), .val (.int (4 : Int32)), .val (.int (u1.toInt8.toInt32)), .val (.int (u2.toInt8.toInt32)), .val (.int (u3.toInt8.toInt32)), .val (.int (u4.toInt8.toInt32)), .val (.ref b71), .unset]) rfl k) ?_
    show own_Go _ _ _ _ (T71.setTop (mkF m 31 #[.val (.int u0), .val (.int u1), .val (.int u2), .val (.int u3), .val (.int u4), .val (.int (4 : Int32)), .val (.int (u1.toInt8.toInt32)), .val (.int (u2.toInt8.toInt32)), .val (.int (u3.toInt8.toInt32)), .val (.int (u4.toInt8.toInt32)), .val (.ref b71), .unset] []))
    refine own_st (fun _ k => XS.iload X71.here hx rfl (hb hby at_31) rfl k) ?_
    show own_Go _ _ _ _ (T71.setTop (mkF m 33 #[.val (.int u0), .val (.int u1), .val (.int u2), .val (.int u3), .val (.int u4), .val (.int (4 : Int32)), .val (.int (u1.toInt8.toInt32)), .val (.int (u2.toInt8.toInt32)), .val (.int (u3.toInt8.toInt32)), .val (.int (u4.toInt8.toInt32)), .val (.ref b71), .unset] [(.int (4 : Int32))]))
    refine own_st (fun _ k => XS.ifNo X71.here hx rfl (hb hby at_33) rfl ((if0 _ _).trans (tlt (by decide : ((0 : Int32) < (4 : Int32)))).2.2.2) k) ?_
    show own_Go _ _ _ _ (T71.setTop (mkF m 36 #[.val (.int u0), .val (.int u1), .val (.int u2), .val (.int u3), .val (.int u4), .val (.int (4 : Int32)), .val (.int (u1.toInt8.toInt32)), .val (.int (u2.toInt8.toInt32)), .val (.int (u3.toInt8.toInt32)), .val (.int (u4.toInt8.toInt32)), .val (.ref b71), .unset] []))
    refine own_st (fun _ k => XS.aload X71.here hx rfl (hb hby at_36) rfl rfl k) ?_
    show own_Go _ _ _ _ (T71.setTop (mkF m 38 #[.val (.int u0), .val (.int u1), .val (.int u2), .val (.int u3), .val (.int u4), .val (.int (4 : Int32)), .val (.int (u1.toInt8.toInt32)), .val (.int (u2.toInt8.toInt32)), .val (.int (u3.toInt8.toInt32)), .val (.int (u4.toInt8.toInt32)), .val (.ref b71), .unset] [(.ref b71)]))
    refine own_st (fun _ k => XS.iconst X71.here hx rfl (hb hby at_38) k) ?_
    show own_Go _ _ _ _ (T71.setTop (mkF m 39 #[.val (.int u0), .val (.int u1), .val (.int u2), .val (.int u3), .val (.int u4), .val (.int (4 : Int32)), .val (.int (u1.toInt8.toInt32)), .val (.int (u2.toInt8.toInt32)), .val (.int (u3.toInt8.toInt32)), .val (.int (u4.toInt8.toInt32)), .val (.ref b71), .unset] [(.int (0 : Int32)), (.ref b71)]))
    refine own_st (fun _ k => XS.iload X71.here hx rfl (hb hby at_39) rfl k) ?_
    show own_Go _ _ _ _ (T71.setTop (mkF m 41 #[.val (.int u0), .val (.int u1), .val (.int u2), .val (.int u3), .val (.int u4), .val (.int (4 : Int32)), .val (.int (u1.toInt8.toInt32)), .val (.int (u2.toInt8.toInt32)), .val (.int (u3.toInt8.toInt32)), .val (.int (u4.toInt8.toInt32)), .val (.ref b71), .unset] [(.int (u1.toInt8.toInt32)), (.int (0 : Int32)), (.ref b71)]))
    obtain ⟨cl72, Ar72, Kd72, Sz72, Nn72, Hs72, Gs72⟩ := id V71
    obtain ⟨T72, h72, X72, e72, W72, st72⟩ := stB X71 hx hZ e71 Ar72 (j := (0 : Int32)) (inb_of Sz72 ⟨(by decide : ¬ ((0 : Int32) < (0 : Int32))), (by decide : (0 : Int32) < (4 : Int32))⟩) (g := (mkF m 41 #[.val (.int u0), .val (.int u1), .val (.int u2), .val (.int u3), .val (.int u4), .val (.int (4 : Int32)), .val (.int (u1.toInt8.toInt32)), .val (.int (u2.toInt8.toInt32)), .val (.int (u3.toInt8.toInt32)), .val (.int (u4.toInt8.toInt32)), .val (.ref b71), .unset] [(.int (u1.toInt8.toInt32)), (.int (0 : Int32)), (.ref b71)])) rfl rfl (hb hby at_41)
    refine own_st st72 ?_
    have V72 := Arv.set Ar72 Kd72 Sz72 Nn72 Hs72 Gs72 (fits_nar_byte _) W72 0 rfl (Nat.le_of_ble_eq_true rfl)
    have V72' : Arv Z h72 b71 k71 .byte (4 : Int32) [(.int (u1.toInt8.toInt32)), (.int (0 : Int32)), (.int (0 : Int32)), (.int (0 : Int32))] (.int (0 : Int32)) := by have q := V72; rw [own_narB] at q; exact q
    have Z72 : n0 ≤ h72.size := Nat.le_trans Z71 (Nat.le_of_eq W72.size.symm)
    have N72 := Fr.snoc X72 N0 gnb71
    have K72 : Keep h0 h72 [] := K71.wr W72 (Or.inr gkb71)
    show own_Go _ _ _ _ (T72.setTop (mkF m 42 #[.val (.int u0), .val (.int u1), .val (.int u2), .val (.int u3), .val (.int u4), .val (.int (4 : Int32)), .val (.int (u1.toInt8.toInt32)), .val (.int (u2.toInt8.toInt32)), .val (.int (u3.toInt8.toInt32)), .val (.int (u4.toInt8.toInt32)), .val (.ref b71), .unset] []))
    refine own_st (fun _ k => XS.iload X72.here hx rfl (hb hby at_42) rfl k) ?_
    show own_Go _ _ _ _ (T72.setTop (mkF m 44 #[.val (.int u0), .val (.int u1), .val (.int u2), .val (.int u3), .val (.int u4), .val (.int (4 : Int32)), .val (.int (u1.toInt8.toInt32)), .val (.int (u2.toInt8.toInt32)), .val (.int (u3.toInt8.toInt32)), .val (.int (u4.toInt8.toInt32)), .val (.ref b71), .unset] [(.int (4 : Int32))]))
    refine own_st (fun _ k => XS.iconst X72.here hx rfl (hb hby at_44) k) ?_
    show own_Go _ _ _ _ (T72.setTop (mkF m 45 #[.val (.int u0), .val (.int u1), .val (.int u2), .val (.int u3), .val (.int u4), .val (.int (4 : Int32)), .val (.int (u1.toInt8.toInt32)), .val (.int (u2.toInt8.toInt32)), .val (.int (u3.toInt8.toInt32)), .val (.int (u4.toInt8.toInt32)), .val (.ref b71), .unset] [(.int (1 : Int32)), (.int (4 : Int32))]))
    refine own_st (fun _ k => XS.icmpNo X72.here hx rfl (hb hby at_45) rfl (tlt (by decide : ((1 : Int32) < (4 : Int32)))).2.2.2 k) ?_
    show own_Go _ _ _ _ (T72.setTop (mkF m 48 #[.val (.int u0), .val (.int u1), .val (.int u2), .val (.int u3), .val (.int u4), .val (.int (4 : Int32)), .val (.int (u1.toInt8.toInt32)), .val (.int (u2.toInt8.toInt32)), .val (.int (u3.toInt8.toInt32)), .val (.int (u4.toInt8.toInt32)), .val (.ref b71), .unset] []))
    refine own_st (fun _ k => XS.aload X72.here hx rfl (hb hby at_48) rfl rfl k) ?_
    show own_Go _ _ _ _ (T72.setTop (mkF m 50 #[.val (.int u0), .val (.int u1), .val (.int u2), .val (.int u3), .val (.int u4), .val (.int (4 : Int32)), .val (.int (u1.toInt8.toInt32)), .val (.int (u2.toInt8.toInt32)), .val (.int (u3.toInt8.toInt32)), .val (.int (u4.toInt8.toInt32)), .val (.ref b71), .unset] [(.ref b71)]))
    refine own_st (fun _ k => XS.iconst X72.here hx rfl (hb hby at_50) k) ?_
    show own_Go _ _ _ _ (T72.setTop (mkF m 51 #[.val (.int u0), .val (.int u1), .val (.int u2), .val (.int u3), .val (.int u4), .val (.int (4 : Int32)), .val (.int (u1.toInt8.toInt32)), .val (.int (u2.toInt8.toInt32)), .val (.int (u3.toInt8.toInt32)), .val (.int (u4.toInt8.toInt32)), .val (.ref b71), .unset] [(.int (1 : Int32)), (.ref b71)]))
    refine own_st (fun _ k => XS.iload X72.here hx rfl (hb hby at_51) rfl k) ?_
    show own_Go _ _ _ _ (T72.setTop (mkF m 53 #[.val (.int u0), .val (.int u1), .val (.int u2), .val (.int u3), .val (.int u4), .val (.int (4 : Int32)), .val (.int (u1.toInt8.toInt32)), .val (.int (u2.toInt8.toInt32)), .val (.int (u3.toInt8.toInt32)), .val (.int (u4.toInt8.toInt32)), .val (.ref b71), .unset] [(.int (u2.toInt8.toInt32)), (.int (1 : Int32)), (.ref b71)]))
    obtain ⟨cl73, Ar73, Kd73, Sz73, Nn73, Hs73, Gs73⟩ := id V72'
    obtain ⟨T73, h73, X73, e73, W73, st73⟩ := stB X72 hx hZ e72 Ar73 (j := (1 : Int32)) (inb_of Sz73 ⟨(by decide : ¬ ((1 : Int32) < (0 : Int32))), (by decide : (1 : Int32) < (4 : Int32))⟩) (g := (mkF m 53 #[.val (.int u0), .val (.int u1), .val (.int u2), .val (.int u3), .val (.int u4), .val (.int (4 : Int32)), .val (.int (u1.toInt8.toInt32)), .val (.int (u2.toInt8.toInt32)), .val (.int (u3.toInt8.toInt32)), .val (.int (u4.toInt8.toInt32)), .val (.ref b71), .unset] [(.int (u2.toInt8.toInt32)), (.int (1 : Int32)), (.ref b71)])) rfl rfl (hb hby at_53)
    refine own_st st73 ?_
    have V73 := Arv.set Ar73 Kd73 Sz73 Nn73 Hs73 Gs73 (fits_nar_byte _) W73 1 rfl (Nat.le_of_ble_eq_true rfl)
    have V73' : Arv Z h73 b71 k71 .byte (4 : Int32) [(.int (u1.toInt8.toInt32)), (.int (u2.toInt8.toInt32)), (.int (0 : Int32)), (.int (0 : Int32))] (.int (0 : Int32)) := by have q := V73; rw [own_narB] at q; exact q
    have Z73 : n0 ≤ h73.size := Nat.le_trans Z72 (Nat.le_of_eq W73.size.symm)
    have N73 := Fr.snoc X73 N72 gnb71
    have K73 : Keep h0 h73 [] := K72.wr W73 (Or.inr gkb71)
    show own_Go _ _ _ _ (T73.setTop (mkF m 54 #[.val (.int u0), .val (.int u1), .val (.int u2), .val (.int u3), .val (.int u4), .val (.int (4 : Int32)), .val (.int (u1.toInt8.toInt32)), .val (.int (u2.toInt8.toInt32)), .val (.int (u3.toInt8.toInt32)), .val (.int (u4.toInt8.toInt32)), .val (.ref b71), .unset] []))
    refine own_st (fun _ k => XS.iload X73.here hx rfl (hb hby at_54) rfl k) ?_
    show own_Go _ _ _ _ (T73.setTop (mkF m 56 #[.val (.int u0), .val (.int u1), .val (.int u2), .val (.int u3), .val (.int u4), .val (.int (4 : Int32)), .val (.int (u1.toInt8.toInt32)), .val (.int (u2.toInt8.toInt32)), .val (.int (u3.toInt8.toInt32)), .val (.int (u4.toInt8.toInt32)), .val (.ref b71), .unset] [(.int (4 : Int32))]))
    refine own_st (fun _ k => XS.iconst X73.here hx rfl (hb hby at_56) k) ?_
    show own_Go _ _ _ _ (T73.setTop (mkF m 57 #[.val (.int u0), .val (.int u1), .val (.int u2), .val (.int u3), .val (.int u4), .val (.int (4 : Int32)), .val (.int (u1.toInt8.toInt32)), .val (.int (u2.toInt8.toInt32)), .val (.int (u3.toInt8.toInt32)), .val (.int (u4.toInt8.toInt32)), .val (.ref b71), .unset] [(.int (2 : Int32)), (.int (4 : Int32))]))
    refine own_st (fun _ k => XS.icmpNo X73.here hx rfl (hb hby at_57) rfl (tlt (by decide : ((2 : Int32) < (4 : Int32)))).2.2.2 k) ?_
    show own_Go _ _ _ _ (T73.setTop (mkF m 60 #[.val (.int u0), .val (.int u1), .val (.int u2), .val (.int u3), .val (.int u4), .val (.int (4 : Int32)), .val (.int (u1.toInt8.toInt32)), .val (.int (u2.toInt8.toInt32)), .val (.int (u3.toInt8.toInt32)), .val (.int (u4.toInt8.toInt32)), .val (.ref b71), .unset] []))
    refine own_st (fun _ k => XS.aload X73.here hx rfl (hb hby at_60) rfl rfl k) ?_
    show own_Go _ _ _ _ (T73.setTop (mkF m 62 #[.val (.int u0), .val (.int u1), .val (.int u2), .val (.int u3), .val (.int u4), .val (.int (4 : Int32)), .val (.int (u1.toInt8.toInt32)), .val (.int (u2.toInt8.toInt32)), .val (.int (u3.toInt8.toInt32)), .val (.int (u4.toInt8.toInt32)), .val (.ref b71), .unset] [(.ref b71)]))
    refine own_st (fun _ k => XS.iconst X73.here hx rfl (hb hby at_62) k) ?_
    show own_Go _ _ _ _ (T73.setTop (mkF m 63 #[.val (.int u0), .val (.int u1), .val (.int u2), .val (.int u3), .val (.int u4), .val (.int (4 : Int32)), .val (.int (u1.toInt8.toInt32)), .val (.int (u2.toInt8.toInt32)), .val (.int (u3.toInt8.toInt32)), .val (.int (u4.toInt8.toInt32)), .val (.ref b71), .unset] [(.int (2 : Int32)), (.ref b71)]))
    refine own_st (fun _ k => XS.iload X73.here hx rfl (hb hby at_63) rfl k) ?_
    show own_Go _ _ _ _ (T73.setTop (mkF m 65 #[.val (.int u0), .val (.int u1), .val (.int u2), .val (.int u3), .val (.int u4), .val (.int (4 : Int32)), .val (.int (u1.toInt8.toInt32)), .val (.int (u2.toInt8.toInt32)), .val (.int (u3.toInt8.toInt32)), .val (.int (u4.toInt8.toInt32)), .val (.ref b71), .unset] [(.int (u3.toInt8.toInt32)), (.int (2 : Int32)), (.ref b71)]))
    obtain ⟨cl74, Ar74, Kd74, Sz74, Nn74, Hs74, Gs74⟩ := id V73'
    obtain ⟨T74, h74, X74, e74, W74, st74⟩ := stB X73 hx hZ e73 Ar74 (j := (2 : Int32)) (inb_of Sz74 ⟨(by decide : ¬ ((2 : Int32) < (0 : Int32))), (by decide : (2 : Int32) < (4 : Int32))⟩) (g := (mkF m 65 #[.val (.int u0), .val (.int u1), .val (.int u2), .val (.int u3), .val (.int u4), .val (.int (4 : Int32)), .val (.int (u1.toInt8.toInt32)), .val (.int (u2.toInt8.toInt32)), .val (.int (u3.toInt8.toInt32)), .val (.int (u4.toInt8.toInt32)), .val (.ref b71), .unset] [(.int (u3.toInt8.toInt32)), (.int (2 : Int32)), (.ref b71)])) rfl rfl (hb hby at_65)
    refine own_st st74 ?_
    have V74 := Arv.set Ar74 Kd74 Sz74 Nn74 Hs74 Gs74 (fits_nar_byte _) W74 2 rfl (Nat.le_of_ble_eq_true rfl)
    have V74' : Arv Z h74 b71 k71 .byte (4 : Int32) [(.int (u1.toInt8.toInt32)), (.int (u2.toInt8.toInt32)), (.int (u3.toInt8.toInt32)), (.int (0 : Int32))] (.int (0 : Int32)) := by have q := V74; rw [own_narB] at q; exact q
    have Z74 : n0 ≤ h74.size := Nat.le_trans Z73 (Nat.le_of_eq W74.size.symm)
    have N74 := Fr.snoc X74 N73 gnb71
    have K74 : Keep h0 h74 [] := K73.wr W74 (Or.inr gkb71)
    show own_Go _ _ _ _ (T74.setTop (mkF m 66 #[.val (.int u0), .val (.int u1), .val (.int u2), .val (.int u3), .val (.int u4), .val (.int (4 : Int32)), .val (.int (u1.toInt8.toInt32)), .val (.int (u2.toInt8.toInt32)), .val (.int (u3.toInt8.toInt32)), .val (.int (u4.toInt8.toInt32)), .val (.ref b71), .unset] []))
    refine own_st (fun _ k => XS.iload X74.here hx rfl (hb hby at_66) rfl k) ?_
    show own_Go _ _ _ _ (T74.setTop (mkF m 68 #[.val (.int u0), .val (.int u1), .val (.int u2), .val (.int u3), .val (.int u4), .val (.int (4 : Int32)), .val (.int (u1.toInt8.toInt32)), .val (.int (u2.toInt8.toInt32)), .val (.int (u3.toInt8.toInt32)), .val (.int (u4.toInt8.toInt32)), .val (.ref b71), .unset] [(.int (4 : Int32))]))
    refine own_st (fun _ k => XS.iconst X74.here hx rfl (hb hby at_68) k) ?_
    show own_Go _ _ _ _ (T74.setTop (mkF m 69 #[.val (.int u0), .val (.int u1), .val (.int u2), .val (.int u3), .val (.int u4), .val (.int (4 : Int32)), .val (.int (u1.toInt8.toInt32)), .val (.int (u2.toInt8.toInt32)), .val (.int (u3.toInt8.toInt32)), .val (.int (u4.toInt8.toInt32)), .val (.ref b71), .unset] [(.int (3 : Int32)), (.int (4 : Int32))]))
    refine own_st (fun _ k => XS.icmpNo X74.here hx rfl (hb hby at_69) rfl (tlt (by decide : ((3 : Int32) < (4 : Int32)))).2.2.2 k) ?_
    show own_Go _ _ _ _ (T74.setTop (mkF m 72 #[.val (.int u0), .val (.int u1), .val (.int u2), .val (.int u3), .val (.int u4), .val (.int (4 : Int32)), .val (.int (u1.toInt8.toInt32)), .val (.int (u2.toInt8.toInt32)), .val (.int (u3.toInt8.toInt32)), .val (.int (u4.toInt8.toInt32)), .val (.ref b71), .unset] []))
    refine own_st (fun _ k => XS.aload X74.here hx rfl (hb hby at_72) rfl rfl k) ?_
    show own_Go _ _ _ _ (T74.setTop (mkF m 74 #[.val (.int u0), .val (.int u1), .val (.int u2), .val (.int u3), .val (.int u4), .val (.int (4 : Int32)), .val (.int (u1.toInt8.toInt32)), .val (.int (u2.toInt8.toInt32)), .val (.int (u3.toInt8.toInt32)), .val (.int (u4.toInt8.toInt32)), .val (.ref b71), .unset] [(.ref b71)]))
    refine own_st (fun _ k => XS.iconst X74.here hx rfl (hb hby at_74) k) ?_
    show own_Go _ _ _ _ (T74.setTop (mkF m 75 #[.val (.int u0), .val (.int u1), .val (.int u2), .val (.int u3), .val (.int u4), .val (.int (4 : Int32)), .val (.int (u1.toInt8.toInt32)), .val (.int (u2.toInt8.toInt32)), .val (.int (u3.toInt8.toInt32)), .val (.int (u4.toInt8.toInt32)), .val (.ref b71), .unset] [(.int (3 : Int32)), (.ref b71)]))
    refine own_st (fun _ k => XS.iload X74.here hx rfl (hb hby at_75) rfl k) ?_
    show own_Go _ _ _ _ (T74.setTop (mkF m 77 #[.val (.int u0), .val (.int u1), .val (.int u2), .val (.int u3), .val (.int u4), .val (.int (4 : Int32)), .val (.int (u1.toInt8.toInt32)), .val (.int (u2.toInt8.toInt32)), .val (.int (u3.toInt8.toInt32)), .val (.int (u4.toInt8.toInt32)), .val (.ref b71), .unset] [(.int (u4.toInt8.toInt32)), (.int (3 : Int32)), (.ref b71)]))
    obtain ⟨cl75, Ar75, Kd75, Sz75, Nn75, Hs75, Gs75⟩ := id V74'
    obtain ⟨T75, h75, X75, e75, W75, st75⟩ := stB X74 hx hZ e74 Ar75 (j := (3 : Int32)) (inb_of Sz75 ⟨(by decide : ¬ ((3 : Int32) < (0 : Int32))), (by decide : (3 : Int32) < (4 : Int32))⟩) (g := (mkF m 77 #[.val (.int u0), .val (.int u1), .val (.int u2), .val (.int u3), .val (.int u4), .val (.int (4 : Int32)), .val (.int (u1.toInt8.toInt32)), .val (.int (u2.toInt8.toInt32)), .val (.int (u3.toInt8.toInt32)), .val (.int (u4.toInt8.toInt32)), .val (.ref b71), .unset] [(.int (u4.toInt8.toInt32)), (.int (3 : Int32)), (.ref b71)])) rfl rfl (hb hby at_77)
    refine own_st st75 ?_
    have V75 := Arv.set Ar75 Kd75 Sz75 Nn75 Hs75 Gs75 (fits_nar_byte _) W75 3 rfl (Nat.le_of_ble_eq_true rfl)
    have V75' : Arv Z h75 b71 k71 .byte (4 : Int32) [(.int (u1.toInt8.toInt32)), (.int (u2.toInt8.toInt32)), (.int (u3.toInt8.toInt32)), (.int (u4.toInt8.toInt32))] (.int (0 : Int32)) := by have q := V75; rw [own_narB] at q; exact q
    have Z75 : n0 ≤ h75.size := Nat.le_trans Z74 (Nat.le_of_eq W75.size.symm)
    have N75 := Fr.snoc X75 N74 gnb71
    have K75 : Keep h0 h75 [] := K74.wr W75 (Or.inr gkb71)
    show own_Go _ _ _ _ (T75.setTop (mkF m 78 #[.val (.int u0), .val (.int u1), .val (.int u2), .val (.int u3), .val (.int u4), .val (.int (4 : Int32)), .val (.int (u1.toInt8.toInt32)), .val (.int (u2.toInt8.toInt32)), .val (.int (u3.toInt8.toInt32)), .val (.int (u4.toInt8.toInt32)), .val (.ref b71), .unset] []))
    refine own_st (fun _ k => XS.iload X75.here hx rfl (hb hby at_78) rfl k) ?_
    show own_Go _ _ _ _ (T75.setTop (mkF m 80 #[.val (.int u0), .val (.int u1), .val (.int u2), .val (.int u3), .val (.int u4), .val (.int (4 : Int32)), .val (.int (u1.toInt8.toInt32)), .val (.int (u2.toInt8.toInt32)), .val (.int (u3.toInt8.toInt32)), .val (.int (u4.toInt8.toInt32)), .val (.ref b71), .unset] [(.int (4 : Int32))]))
    refine own_st (fun _ k => XS.iconst X75.here hx rfl (hb hby at_80) k) ?_
    show own_Go _ _ _ _ (T75.setTop (mkF m 81 #[.val (.int u0), .val (.int u1), .val (.int u2), .val (.int u3), .val (.int u4), .val (.int (4 : Int32)), .val (.int (u1.toInt8.toInt32)), .val (.int (u2.toInt8.toInt32)), .val (.int (u3.toInt8.toInt32)), .val (.int (u4.toInt8.toInt32)), .val (.ref b71), .unset] [(.int (1 : Int32)), (.int (4 : Int32))]))
    refine own_st (fun _ k => XS.icmpNo X75.here hx rfl (hb hby at_81) rfl (flt (by decide : ¬ ((4 : Int32) < (1 : Int32)))).1 k) ?_
    show own_Go _ _ _ _ (T75.setTop (mkF m 84 #[.val (.int u0), .val (.int u1), .val (.int u2), .val (.int u3), .val (.int u4), .val (.int (4 : Int32)), .val (.int (u1.toInt8.toInt32)), .val (.int (u2.toInt8.toInt32)), .val (.int (u3.toInt8.toInt32)), .val (.int (u4.toInt8.toInt32)), .val (.ref b71), .unset] []))
    refine own_st (fun _ k => XS.iload X75.here hx rfl (hb hby at_84) rfl k) ?_
    show own_Go _ _ _ _ (T75.setTop (mkF m 86 #[.val (.int u0), .val (.int u1), .val (.int u2), .val (.int u3), .val (.int u4), .val (.int (4 : Int32)), .val (.int (u1.toInt8.toInt32)), .val (.int (u2.toInt8.toInt32)), .val (.int (u3.toInt8.toInt32)), .val (.int (u4.toInt8.toInt32)), .val (.ref b71), .unset] [(.int (u1.toInt8.toInt32))]))
    obtain ⟨_, _, ⟨T76, L76, k76, n76⟩, -, X76, ⟨Lc76, hQ76, l76, y76, z76⟩, st76⟩ := Jvm.LawKit.callS X75 hx (y := (⟨"quillvax/mllp/MllpCarriesPinLaw", "clean", "(B)Z"⟩ : MethodName)) hown (mvT hZ (hw _ (List.mem_of_getElem? (i := 6) rfl))) (mvT hZ (hw _ (List.mem_of_getElem? (i := 7) rfl))) (mvT hZ (hw _ (List.mem_of_getElem? (i := 8) rfl))) (mvT hZ (hw _ (List.mem_of_getElem? (i := 9) rfl))) (by decide) (backOf (W := 0) (rm2 l Z a0 hw [] (u1.toInt8.toInt32) h75 n0 Z75 ) hZ (hw _ (List.mem_of_getElem? (i := 9) rfl)) (hw _ (List.mem_of_getElem? (i := 8) rfl)) (by decide) (by decide)) (g := (mkF m 86 #[.val (.int u0), .val (.int u1), .val (.int u2), .val (.int u3), .val (.int u4), .val (.int (4 : Int32)), .val (.int (u1.toInt8.toInt32)), .val (.int (u2.toInt8.toInt32)), .val (.int (u3.toInt8.toInt32)), .val (.int (u4.toInt8.toInt32)), .val (.ref b71), .unset] [(.int (u1.toInt8.toInt32))])) rfl (by rw [hml]; rfl) (argsL := [(.int (u1.toInt8.toInt32))]) (rest := []) (lenOf own_pd0 rfl) rfl (by show 2 * 0 + _ ≤ _; exact Nat.le_of_eq rfl) (hb hby at_86) (fun _ _ => ⟨rfl, e75, (by decide : 1 + 0 ≤ _), (by decide : 4 + 0 ≤ _)⟩)
    dsimp only [Pt.U, Pt.locs, Pt.cells, Pt.slots] at X76 l76 y76 z76 st76 hQ76
    subst l76 y76 z76
    obtain ⟨rfl, Nq76, eq76⟩ := hQ76
    have N76 := Fr.app N75 Nq76
    refine own_st st76 ?_
    show own_Go _ _ _ _ (T76.setTop (mkF m 89 #[.val (.int u0), .val (.int u1), .val (.int u2), .val (.int u3), .val (.int u4), .val (.int (4 : Int32)), .val (.int (u1.toInt8.toInt32)), .val (.int (u2.toInt8.toInt32)), .val (.int (u3.toInt8.toInt32)), .val (.int (u4.toInt8.toInt32)), .val (.ref b71), .unset] [(.int (own_cl (u1.toInt8.toInt32)))]))
    by_cases hc77 : (own_cl (u1.toInt8.toInt32)) = (0 : Int32)
    · skip
      refine own_st (fun _ k => XS.ifYes X76.here hx rfl (pc0 := 89) (pc' := 138) rfl (hb hby at_89) rfl ((if0 _ _).trans (teq hc77).1) (by decide) (by decide) k) ?_
      show own_Go _ _ _ _ (T76.setTop (mkF m 138 #[.val (.int u0), .val (.int u1), .val (.int u2), .val (.int u3), .val (.int u4), .val (.int (4 : Int32)), .val (.int (u1.toInt8.toInt32)), .val (.int (u2.toInt8.toInt32)), .val (.int (u3.toInt8.toInt32)), .val (.int (u4.toInt8.toInt32)), .val (.ref b71), .unset] []))
      refine own_st (fun _ k => XS.iconst X76.here hx rfl (hb hby at_138) k) ?_
      show own_Go _ _ _ _ (T76.setTop (mkF m 139 #[.val (.int u0), .val (.int u1), .val (.int u2), .val (.int u3), .val (.int u4), .val (.int (4 : Int32)), .val (.int (u1.toInt8.toInt32)), .val (.int (u2.toInt8.toInt32)), .val (.int (u3.toInt8.toInt32)), .val (.int (u4.toInt8.toInt32)), .val (.ref b71), .unset] [(.int (0 : Int32))]))
      refine own_st (fun _ k => XS.istore X76.here hx rfl (hb hby at_139) rfl (l' := #[.val (.int u0), .val (.int u1), .val (.int u2), .val (.int u3), .val (.int u4), .val (.int (4 : Int32)), .val (.int (u1.toInt8.toInt32)), .val (.int (u2.toInt8.toInt32)), .val (.int (u3.toInt8.toInt32)), .val (.int (u4.toInt8.toInt32)), .val (.ref b71), .val (.int (0 : Int32))]) rfl k) ?_
      show own_Go _ _ _ _ (T76.setTop (mkF m 141 #[.val (.int u0), .val (.int u1), .val (.int u2), .val (.int u3), .val (.int u4), .val (.int (4 : Int32)), .val (.int (u1.toInt8.toInt32)), .val (.int (u2.toInt8.toInt32)), .val (.int (u3.toInt8.toInt32)), .val (.int (u4.toInt8.toInt32)), .val (.ref b71), .val (.int (0 : Int32))] []))
      refine own_st (fun _ k => XS.aload X76.here hx rfl (hb hby at_141) rfl rfl k) ?_
      show own_Go _ _ _ _ (T76.setTop (mkF m 143 #[.val (.int u0), .val (.int u1), .val (.int u2), .val (.int u3), .val (.int u4), .val (.int (4 : Int32)), .val (.int (u1.toInt8.toInt32)), .val (.int (u2.toInt8.toInt32)), .val (.int (u3.toInt8.toInt32)), .val (.int (u4.toInt8.toInt32)), .val (.ref b71), .val (.int (0 : Int32))] [(.ref b71)]))
      obtain ⟨_, _, ⟨T78, L78, k78, n78⟩, -, X78, ⟨Lc78, hQ78, l78, y78, z78⟩, st78⟩ := Jvm.LawKit.callS X76 hx (y := (⟨"quillvax/mllp/Mllp", "carries", "([B)Z"⟩ : MethodName)) hown (mvT hZ (hw _ (List.mem_of_getElem? (i := 2) rfl))) (mvT hZ (hw _ (List.mem_of_getElem? (i := 3) rfl))) (mvT hZ (hw _ (List.mem_of_getElem? (i := 4) rfl))) (mvT hZ (hw _ (List.mem_of_getElem? (i := 5) rfl))) (by decide) (backOf (W := 0) (rm1_4 l Z a0 hw [] b71 k71 (u1.toInt8.toInt32) (u2.toInt8.toInt32) (u3.toInt8.toInt32) (u4.toInt8.toInt32) h75 n0 Z75 V75') hZ (hw _ (List.mem_of_getElem? (i := 5) rfl)) (hw _ (List.mem_of_getElem? (i := 4) rfl)) (by decide) (by decide)) (g := (mkF m 143 #[.val (.int u0), .val (.int u1), .val (.int u2), .val (.int u3), .val (.int u4), .val (.int (4 : Int32)), .val (.int (u1.toInt8.toInt32)), .val (.int (u2.toInt8.toInt32)), .val (.int (u3.toInt8.toInt32)), .val (.int (u4.toInt8.toInt32)), .val (.ref b71), .val (.int (0 : Int32))] [(.ref b71)])) rfl (by rw [hml]; rfl) (argsL := [(.ref b71)]) (rest := []) (lenOf own_pd1 rfl) rfl (by show 2 * 0 + _ ≤ _; exact Nat.le_of_eq rfl) (hb hby at_143) (fun _ _ => ⟨rfl, eq76, (by decide : 1 + 0 ≤ _), (by decide : 4 + 0 ≤ _)⟩)
      dsimp only [Pt.U, Pt.locs, Pt.cells, Pt.slots] at X78 l78 y78 z78 st78 hQ78
      subst l78 y78 z78
      obtain ⟨rfl, Nq78, eq78⟩ := hQ78
      have N78 := Fr.app N76 Nq78
      refine own_st st78 ?_
      show own_Go _ _ _ _ (T78.setTop (mkF m 146 #[.val (.int u0), .val (.int u1), .val (.int u2), .val (.int u3), .val (.int u4), .val (.int (4 : Int32)), .val (.int (u1.toInt8.toInt32)), .val (.int (u2.toInt8.toInt32)), .val (.int (u3.toInt8.toInt32)), .val (.int (u4.toInt8.toInt32)), .val (.ref b71), .val (.int (0 : Int32))] [(.int (own_ca4 (u1.toInt8.toInt32) (u2.toInt8.toInt32) (u3.toInt8.toInt32) (u4.toInt8.toInt32)))]))
      refine own_st (fun _ k => XS.iload X78.here hx rfl (hb hby at_146) rfl k) ?_
      show own_Go _ _ _ _ (T78.setTop (mkF m 148 #[.val (.int u0), .val (.int u1), .val (.int u2), .val (.int u3), .val (.int u4), .val (.int (4 : Int32)), .val (.int (u1.toInt8.toInt32)), .val (.int (u2.toInt8.toInt32)), .val (.int (u3.toInt8.toInt32)), .val (.int (u4.toInt8.toInt32)), .val (.ref b71), .val (.int (0 : Int32))] [(.int (0 : Int32)), (.int (own_ca4 (u1.toInt8.toInt32) (u2.toInt8.toInt32) (u3.toInt8.toInt32) (u4.toInt8.toInt32)))]))
      refine own_st (fun _ k => XS.icmpNo X78.here hx rfl (hb hby at_148) rfl (teq (by
          unfold own_ca4
          rcases (own_cl_iff u1).mp hc77 with z | z
          · rw [if_pos z]
          · rw [if_neg (by rw [z]; decide), if_pos z])).2 k) ?_
      show own_Go _ _ _ _ (T78.setTop (mkF m 151 #[.val (.int u0), .val (.int u1), .val (.int u2), .val (.int u3), .val (.int u4), .val (.int (4 : Int32)), .val (.int (u1.toInt8.toInt32)), .val (.int (u2.toInt8.toInt32)), .val (.int (u3.toInt8.toInt32)), .val (.int (u4.toInt8.toInt32)), .val (.ref b71), .val (.int (0 : Int32))] []))
      refine own_st (fun _ k => XS.iconst X78.here hx rfl (hb hby at_151) k) ?_
      show own_Go _ _ _ _ (T78.setTop (mkF m 152 #[.val (.int u0), .val (.int u1), .val (.int u2), .val (.int u3), .val (.int u4), .val (.int (4 : Int32)), .val (.int (u1.toInt8.toInt32)), .val (.int (u2.toInt8.toInt32)), .val (.int (u3.toInt8.toInt32)), .val (.int (u4.toInt8.toInt32)), .val (.ref b71), .val (.int (0 : Int32))] [(.int (1 : Int32))]))
      refine own_st (fun _ k => XS.goto X78.here hx rfl (pc0 := 152) (pc' := 156) rfl (hb hby at_152) (by decide) (by decide) k) ?_
      show own_Go _ _ _ _ (T78.setTop (mkF m 156 #[.val (.int u0), .val (.int u1), .val (.int u2), .val (.int u3), .val (.int u4), .val (.int (4 : Int32)), .val (.int (u1.toInt8.toInt32)), .val (.int (u2.toInt8.toInt32)), .val (.int (u3.toInt8.toInt32)), .val (.int (u4.toInt8.toInt32)), .val (.ref b71), .val (.int (0 : Int32))] [(.int (1 : Int32))]))
      obtain ⟨fs, hr, hrun, hended, hW, hsame⟩ := X78.leave (v := some (.int (1 : Int32))) (fun h => by rw [Bd.returns] at h; cases h)
      refine own_out (retN X78 hx (t := .boolean) Bd.returns (by simp) (hb hby at_156) hr) ⟨hrun, hended, _, _, rfl, ?_, ⟨_, rfl⟩, hW, hsame.mono (by decide) (by decide)⟩
      show Q0 Z u0 u1 u2 u3 u4 h0 n0 _ T78.heap _
      exact ⟨rfl, N78⟩
    · skip
      refine own_st (fun _ k => XS.ifNo X76.here hx rfl (hb hby at_89) rfl ((if0 _ _).trans (feq hc77).1) k) ?_
      show own_Go _ _ _ _ (T76.setTop (mkF m 92 #[.val (.int u0), .val (.int u1), .val (.int u2), .val (.int u3), .val (.int u4), .val (.int (4 : Int32)), .val (.int (u1.toInt8.toInt32)), .val (.int (u2.toInt8.toInt32)), .val (.int (u3.toInt8.toInt32)), .val (.int (u4.toInt8.toInt32)), .val (.ref b71), .unset] []))
      refine own_st (fun _ k => XS.iload X76.here hx rfl (hb hby at_92) rfl k) ?_
      show own_Go _ _ _ _ (T76.setTop (mkF m 94 #[.val (.int u0), .val (.int u1), .val (.int u2), .val (.int u3), .val (.int u4), .val (.int (4 : Int32)), .val (.int (u1.toInt8.toInt32)), .val (.int (u2.toInt8.toInt32)), .val (.int (u3.toInt8.toInt32)), .val (.int (u4.toInt8.toInt32)), .val (.ref b71), .unset] [(.int (4 : Int32))]))
      refine own_st (fun _ k => XS.iconst X76.here hx rfl (hb hby at_94) k) ?_
      show own_Go _ _ _ _ (T76.setTop (mkF m 95 #[.val (.int u0), .val (.int u1), .val (.int u2), .val (.int u3), .val (.int u4), .val (.int (4 : Int32)), .val (.int (u1.toInt8.toInt32)), .val (.int (u2.toInt8.toInt32)), .val (.int (u3.toInt8.toInt32)), .val (.int (u4.toInt8.toInt32)), .val (.ref b71), .unset] [(.int (2 : Int32)), (.int (4 : Int32))]))
      refine own_st (fun _ k => XS.icmpNo X76.here hx rfl (hb hby at_95) rfl (flt (by decide : ¬ ((4 : Int32) < (2 : Int32)))).1 k) ?_
      show own_Go _ _ _ _ (T76.setTop (mkF m 98 #[.val (.int u0), .val (.int u1), .val (.int u2), .val (.int u3), .val (.int u4), .val (.int (4 : Int32)), .val (.int (u1.toInt8.toInt32)), .val (.int (u2.toInt8.toInt32)), .val (.int (u3.toInt8.toInt32)), .val (.int (u4.toInt8.toInt32)), .val (.ref b71), .unset] []))
      refine own_st (fun _ k => XS.iload X76.here hx rfl (hb hby at_98) rfl k) ?_
      show own_Go _ _ _ _ (T76.setTop (mkF m 100 #[.val (.int u0), .val (.int u1), .val (.int u2), .val (.int u3), .val (.int u4), .val (.int (4 : Int32)), .val (.int (u1.toInt8.toInt32)), .val (.int (u2.toInt8.toInt32)), .val (.int (u3.toInt8.toInt32)), .val (.int (u4.toInt8.toInt32)), .val (.ref b71), .unset] [(.int (u2.toInt8.toInt32))]))
      obtain ⟨_, _, ⟨T79, L79, k79, n79⟩, -, X79, ⟨Lc79, hQ79, l79, y79, z79⟩, st79⟩ := Jvm.LawKit.callS X76 hx (y := (⟨"quillvax/mllp/MllpCarriesPinLaw", "clean", "(B)Z"⟩ : MethodName)) hown (mvT hZ (hw _ (List.mem_of_getElem? (i := 6) rfl))) (mvT hZ (hw _ (List.mem_of_getElem? (i := 7) rfl))) (mvT hZ (hw _ (List.mem_of_getElem? (i := 8) rfl))) (mvT hZ (hw _ (List.mem_of_getElem? (i := 9) rfl))) (by decide) (backOf (W := 0) (rm2 l Z a0 hw [] (u2.toInt8.toInt32) h75 n0 Z75 ) hZ (hw _ (List.mem_of_getElem? (i := 9) rfl)) (hw _ (List.mem_of_getElem? (i := 8) rfl)) (by decide) (by decide)) (g := (mkF m 100 #[.val (.int u0), .val (.int u1), .val (.int u2), .val (.int u3), .val (.int u4), .val (.int (4 : Int32)), .val (.int (u1.toInt8.toInt32)), .val (.int (u2.toInt8.toInt32)), .val (.int (u3.toInt8.toInt32)), .val (.int (u4.toInt8.toInt32)), .val (.ref b71), .unset] [(.int (u2.toInt8.toInt32))])) rfl (by rw [hml]; rfl) (argsL := [(.int (u2.toInt8.toInt32))]) (rest := []) (lenOf own_pd0 rfl) rfl (by show 2 * 0 + _ ≤ _; exact Nat.le_of_eq rfl) (hb hby at_100) (fun _ _ => ⟨rfl, eq76, (by decide : 1 + 0 ≤ _), (by decide : 4 + 0 ≤ _)⟩)
      dsimp only [Pt.U, Pt.locs, Pt.cells, Pt.slots] at X79 l79 y79 z79 st79 hQ79
      subst l79 y79 z79
      obtain ⟨rfl, Nq79, eq79⟩ := hQ79
      have N79 := Fr.app N76 Nq79
      refine own_st st79 ?_
      show own_Go _ _ _ _ (T79.setTop (mkF m 103 #[.val (.int u0), .val (.int u1), .val (.int u2), .val (.int u3), .val (.int u4), .val (.int (4 : Int32)), .val (.int (u1.toInt8.toInt32)), .val (.int (u2.toInt8.toInt32)), .val (.int (u3.toInt8.toInt32)), .val (.int (u4.toInt8.toInt32)), .val (.ref b71), .unset] [(.int (own_cl (u2.toInt8.toInt32)))]))
      by_cases hc80 : (own_cl (u2.toInt8.toInt32)) = (0 : Int32)
      · skip
        refine own_st (fun _ k => XS.ifYes X79.here hx rfl (pc0 := 103) (pc' := 138) rfl (hb hby at_103) rfl ((if0 _ _).trans (teq hc80).1) (by decide) (by decide) k) ?_
        show own_Go _ _ _ _ (T79.setTop (mkF m 138 #[.val (.int u0), .val (.int u1), .val (.int u2), .val (.int u3), .val (.int u4), .val (.int (4 : Int32)), .val (.int (u1.toInt8.toInt32)), .val (.int (u2.toInt8.toInt32)), .val (.int (u3.toInt8.toInt32)), .val (.int (u4.toInt8.toInt32)), .val (.ref b71), .unset] []))
        refine own_st (fun _ k => XS.iconst X79.here hx rfl (hb hby at_138) k) ?_
        show own_Go _ _ _ _ (T79.setTop (mkF m 139 #[.val (.int u0), .val (.int u1), .val (.int u2), .val (.int u3), .val (.int u4), .val (.int (4 : Int32)), .val (.int (u1.toInt8.toInt32)), .val (.int (u2.toInt8.toInt32)), .val (.int (u3.toInt8.toInt32)), .val (.int (u4.toInt8.toInt32)), .val (.ref b71), .unset] [(.int (0 : Int32))]))
        refine own_st (fun _ k => XS.istore X79.here hx rfl (hb hby at_139) rfl (l' := #[.val (.int u0), .val (.int u1), .val (.int u2), .val (.int u3), .val (.int u4), .val (.int (4 : Int32)), .val (.int (u1.toInt8.toInt32)), .val (.int (u2.toInt8.toInt32)), .val (.int (u3.toInt8.toInt32)), .val (.int (u4.toInt8.toInt32)), .val (.ref b71), .val (.int (0 : Int32))]) rfl k) ?_
        show own_Go _ _ _ _ (T79.setTop (mkF m 141 #[.val (.int u0), .val (.int u1), .val (.int u2), .val (.int u3), .val (.int u4), .val (.int (4 : Int32)), .val (.int (u1.toInt8.toInt32)), .val (.int (u2.toInt8.toInt32)), .val (.int (u3.toInt8.toInt32)), .val (.int (u4.toInt8.toInt32)), .val (.ref b71), .val (.int (0 : Int32))] []))
        refine own_st (fun _ k => XS.aload X79.here hx rfl (hb hby at_141) rfl rfl k) ?_
        show own_Go _ _ _ _ (T79.setTop (mkF m 143 #[.val (.int u0), .val (.int u1), .val (.int u2), .val (.int u3), .val (.int u4), .val (.int (4 : Int32)), .val (.int (u1.toInt8.toInt32)), .val (.int (u2.toInt8.toInt32)), .val (.int (u3.toInt8.toInt32)), .val (.int (u4.toInt8.toInt32)), .val (.ref b71), .val (.int (0 : Int32))] [(.ref b71)]))
        obtain ⟨_, _, ⟨T81, L81, k81, n81⟩, -, X81, ⟨Lc81, hQ81, l81, y81, z81⟩, st81⟩ := Jvm.LawKit.callS X79 hx (y := (⟨"quillvax/mllp/Mllp", "carries", "([B)Z"⟩ : MethodName)) hown (mvT hZ (hw _ (List.mem_of_getElem? (i := 2) rfl))) (mvT hZ (hw _ (List.mem_of_getElem? (i := 3) rfl))) (mvT hZ (hw _ (List.mem_of_getElem? (i := 4) rfl))) (mvT hZ (hw _ (List.mem_of_getElem? (i := 5) rfl))) (by decide) (backOf (W := 0) (rm1_4 l Z a0 hw [] b71 k71 (u1.toInt8.toInt32) (u2.toInt8.toInt32) (u3.toInt8.toInt32) (u4.toInt8.toInt32) h75 n0 Z75 V75') hZ (hw _ (List.mem_of_getElem? (i := 5) rfl)) (hw _ (List.mem_of_getElem? (i := 4) rfl)) (by decide) (by decide)) (g := (mkF m 143 #[.val (.int u0), .val (.int u1), .val (.int u2), .val (.int u3), .val (.int u4), .val (.int (4 : Int32)), .val (.int (u1.toInt8.toInt32)), .val (.int (u2.toInt8.toInt32)), .val (.int (u3.toInt8.toInt32)), .val (.int (u4.toInt8.toInt32)), .val (.ref b71), .val (.int (0 : Int32))] [(.ref b71)])) rfl (by rw [hml]; rfl) (argsL := [(.ref b71)]) (rest := []) (lenOf own_pd1 rfl) rfl (by show 2 * 0 + _ ≤ _; exact Nat.le_of_eq rfl) (hb hby at_143) (fun _ _ => ⟨rfl, eq79, (by decide : 1 + 0 ≤ _), (by decide : 4 + 0 ≤ _)⟩)
        dsimp only [Pt.U, Pt.locs, Pt.cells, Pt.slots] at X81 l81 y81 z81 st81 hQ81
        subst l81 y81 z81
        obtain ⟨rfl, Nq81, eq81⟩ := hQ81
        have N81 := Fr.app N79 Nq81
        refine own_st st81 ?_
        show own_Go _ _ _ _ (T81.setTop (mkF m 146 #[.val (.int u0), .val (.int u1), .val (.int u2), .val (.int u3), .val (.int u4), .val (.int (4 : Int32)), .val (.int (u1.toInt8.toInt32)), .val (.int (u2.toInt8.toInt32)), .val (.int (u3.toInt8.toInt32)), .val (.int (u4.toInt8.toInt32)), .val (.ref b71), .val (.int (0 : Int32))] [(.int (own_ca4 (u1.toInt8.toInt32) (u2.toInt8.toInt32) (u3.toInt8.toInt32) (u4.toInt8.toInt32)))]))
        refine own_st (fun _ k => XS.iload X81.here hx rfl (hb hby at_146) rfl k) ?_
        show own_Go _ _ _ _ (T81.setTop (mkF m 148 #[.val (.int u0), .val (.int u1), .val (.int u2), .val (.int u3), .val (.int u4), .val (.int (4 : Int32)), .val (.int (u1.toInt8.toInt32)), .val (.int (u2.toInt8.toInt32)), .val (.int (u3.toInt8.toInt32)), .val (.int (u4.toInt8.toInt32)), .val (.ref b71), .val (.int (0 : Int32))] [(.int (0 : Int32)), (.int (own_ca4 (u1.toInt8.toInt32) (u2.toInt8.toInt32) (u3.toInt8.toInt32) (u4.toInt8.toInt32)))]))
        refine own_st (fun _ k => XS.icmpNo X81.here hx rfl (hb hby at_148) rfl (teq (by
            unfold own_ca4
            rcases (own_cl_iff u2).mp hc80 with z | z
            · rw [if_neg (own_no u1 hc77).1, if_neg (own_no u1 hc77).2, if_pos z]
            · rw [if_neg (own_no u1 hc77).1, if_neg (own_no u1 hc77).2, if_neg (by rw [z]; decide), if_pos z])).2 k) ?_
        show own_Go _ _ _ _ (T81.setTop (mkF m 151 #[.val (.int u0), .val (.int u1), .val (.int u2), .val (.int u3), .val (.int u4), .val (.int (4 : Int32)), .val (.int (u1.toInt8.toInt32)), .val (.int (u2.toInt8.toInt32)), .val (.int (u3.toInt8.toInt32)), .val (.int (u4.toInt8.toInt32)), .val (.ref b71), .val (.int (0 : Int32))] []))
        refine own_st (fun _ k => XS.iconst X81.here hx rfl (hb hby at_151) k) ?_
        show own_Go _ _ _ _ (T81.setTop (mkF m 152 #[.val (.int u0), .val (.int u1), .val (.int u2), .val (.int u3), .val (.int u4), .val (.int (4 : Int32)), .val (.int (u1.toInt8.toInt32)), .val (.int (u2.toInt8.toInt32)), .val (.int (u3.toInt8.toInt32)), .val (.int (u4.toInt8.toInt32)), .val (.ref b71), .val (.int (0 : Int32))] [(.int (1 : Int32))]))
        refine own_st (fun _ k => XS.goto X81.here hx rfl (pc0 := 152) (pc' := 156) rfl (hb hby at_152) (by decide) (by decide) k) ?_
        show own_Go _ _ _ _ (T81.setTop (mkF m 156 #[.val (.int u0), .val (.int u1), .val (.int u2), .val (.int u3), .val (.int u4), .val (.int (4 : Int32)), .val (.int (u1.toInt8.toInt32)), .val (.int (u2.toInt8.toInt32)), .val (.int (u3.toInt8.toInt32)), .val (.int (u4.toInt8.toInt32)), .val (.ref b71), .val (.int (0 : Int32))] [(.int (1 : Int32))]))
        obtain ⟨fs, hr, hrun, hended, hW, hsame⟩ := X81.leave (v := some (.int (1 : Int32))) (fun h => by rw [Bd.returns] at h; cases h)
        refine own_out (retN X81 hx (t := .boolean) Bd.returns (by simp) (hb hby at_156) hr) ⟨hrun, hended, _, _, rfl, ?_, ⟨_, rfl⟩, hW, hsame.mono (by decide) (by decide)⟩
        show Q0 Z u0 u1 u2 u3 u4 h0 n0 _ T81.heap _
        exact ⟨rfl, N81⟩
      · skip
        refine own_st (fun _ k => XS.ifNo X79.here hx rfl (hb hby at_103) rfl ((if0 _ _).trans (feq hc80).1) k) ?_
        show own_Go _ _ _ _ (T79.setTop (mkF m 106 #[.val (.int u0), .val (.int u1), .val (.int u2), .val (.int u3), .val (.int u4), .val (.int (4 : Int32)), .val (.int (u1.toInt8.toInt32)), .val (.int (u2.toInt8.toInt32)), .val (.int (u3.toInt8.toInt32)), .val (.int (u4.toInt8.toInt32)), .val (.ref b71), .unset] []))
        refine own_st (fun _ k => XS.iload X79.here hx rfl (hb hby at_106) rfl k) ?_
        show own_Go _ _ _ _ (T79.setTop (mkF m 108 #[.val (.int u0), .val (.int u1), .val (.int u2), .val (.int u3), .val (.int u4), .val (.int (4 : Int32)), .val (.int (u1.toInt8.toInt32)), .val (.int (u2.toInt8.toInt32)), .val (.int (u3.toInt8.toInt32)), .val (.int (u4.toInt8.toInt32)), .val (.ref b71), .unset] [(.int (4 : Int32))]))
        refine own_st (fun _ k => XS.iconst X79.here hx rfl (hb hby at_108) k) ?_
        show own_Go _ _ _ _ (T79.setTop (mkF m 109 #[.val (.int u0), .val (.int u1), .val (.int u2), .val (.int u3), .val (.int u4), .val (.int (4 : Int32)), .val (.int (u1.toInt8.toInt32)), .val (.int (u2.toInt8.toInt32)), .val (.int (u3.toInt8.toInt32)), .val (.int (u4.toInt8.toInt32)), .val (.ref b71), .unset] [(.int (3 : Int32)), (.int (4 : Int32))]))
        refine own_st (fun _ k => XS.icmpNo X79.here hx rfl (hb hby at_109) rfl (flt (by decide : ¬ ((4 : Int32) < (3 : Int32)))).1 k) ?_
        show own_Go _ _ _ _ (T79.setTop (mkF m 112 #[.val (.int u0), .val (.int u1), .val (.int u2), .val (.int u3), .val (.int u4), .val (.int (4 : Int32)), .val (.int (u1.toInt8.toInt32)), .val (.int (u2.toInt8.toInt32)), .val (.int (u3.toInt8.toInt32)), .val (.int (u4.toInt8.toInt32)), .val (.ref b71), .unset] []))
        refine own_st (fun _ k => XS.iload X79.here hx rfl (hb hby at_112) rfl k) ?_
        show own_Go _ _ _ _ (T79.setTop (mkF m 114 #[.val (.int u0), .val (.int u1), .val (.int u2), .val (.int u3), .val (.int u4), .val (.int (4 : Int32)), .val (.int (u1.toInt8.toInt32)), .val (.int (u2.toInt8.toInt32)), .val (.int (u3.toInt8.toInt32)), .val (.int (u4.toInt8.toInt32)), .val (.ref b71), .unset] [(.int (u3.toInt8.toInt32))]))
        obtain ⟨_, _, ⟨T82, L82, k82, n82⟩, -, X82, ⟨Lc82, hQ82, l82, y82, z82⟩, st82⟩ := Jvm.LawKit.callS X79 hx (y := (⟨"quillvax/mllp/MllpCarriesPinLaw", "clean", "(B)Z"⟩ : MethodName)) hown (mvT hZ (hw _ (List.mem_of_getElem? (i := 6) rfl))) (mvT hZ (hw _ (List.mem_of_getElem? (i := 7) rfl))) (mvT hZ (hw _ (List.mem_of_getElem? (i := 8) rfl))) (mvT hZ (hw _ (List.mem_of_getElem? (i := 9) rfl))) (by decide) (backOf (W := 0) (rm2 l Z a0 hw [] (u3.toInt8.toInt32) h75 n0 Z75 ) hZ (hw _ (List.mem_of_getElem? (i := 9) rfl)) (hw _ (List.mem_of_getElem? (i := 8) rfl)) (by decide) (by decide)) (g := (mkF m 114 #[.val (.int u0), .val (.int u1), .val (.int u2), .val (.int u3), .val (.int u4), .val (.int (4 : Int32)), .val (.int (u1.toInt8.toInt32)), .val (.int (u2.toInt8.toInt32)), .val (.int (u3.toInt8.toInt32)), .val (.int (u4.toInt8.toInt32)), .val (.ref b71), .unset] [(.int (u3.toInt8.toInt32))])) rfl (by rw [hml]; rfl) (argsL := [(.int (u3.toInt8.toInt32))]) (rest := []) (lenOf own_pd0 rfl) rfl (by show 2 * 0 + _ ≤ _; exact Nat.le_of_eq rfl) (hb hby at_114) (fun _ _ => ⟨rfl, eq79, (by decide : 1 + 0 ≤ _), (by decide : 4 + 0 ≤ _)⟩)
        dsimp only [Pt.U, Pt.locs, Pt.cells, Pt.slots] at X82 l82 y82 z82 st82 hQ82
        subst l82 y82 z82
        obtain ⟨rfl, Nq82, eq82⟩ := hQ82
        have N82 := Fr.app N79 Nq82
        refine own_st st82 ?_
        show own_Go _ _ _ _ (T82.setTop (mkF m 117 #[.val (.int u0), .val (.int u1), .val (.int u2), .val (.int u3), .val (.int u4), .val (.int (4 : Int32)), .val (.int (u1.toInt8.toInt32)), .val (.int (u2.toInt8.toInt32)), .val (.int (u3.toInt8.toInt32)), .val (.int (u4.toInt8.toInt32)), .val (.ref b71), .unset] [(.int (own_cl (u3.toInt8.toInt32)))]))
        by_cases hc83 : (own_cl (u3.toInt8.toInt32)) = (0 : Int32)
        · skip
          refine own_st (fun _ k => XS.ifYes X82.here hx rfl (pc0 := 117) (pc' := 138) rfl (hb hby at_117) rfl ((if0 _ _).trans (teq hc83).1) (by decide) (by decide) k) ?_
          show own_Go _ _ _ _ (T82.setTop (mkF m 138 #[.val (.int u0), .val (.int u1), .val (.int u2), .val (.int u3), .val (.int u4), .val (.int (4 : Int32)), .val (.int (u1.toInt8.toInt32)), .val (.int (u2.toInt8.toInt32)), .val (.int (u3.toInt8.toInt32)), .val (.int (u4.toInt8.toInt32)), .val (.ref b71), .unset] []))
          refine own_st (fun _ k => XS.iconst X82.here hx rfl (hb hby at_138) k) ?_
          show own_Go _ _ _ _ (T82.setTop (mkF m 139 #[.val (.int u0), .val (.int u1), .val (.int u2), .val (.int u3), .val (.int u4), .val (.int (4 : Int32)), .val (.int (u1.toInt8.toInt32)), .val (.int (u2.toInt8.toInt32)), .val (.int (u3.toInt8.toInt32)), .val (.int (u4.toInt8.toInt32)), .val (.ref b71), .unset] [(.int (0 : Int32))]))
          refine own_st (fun _ k => XS.istore X82.here hx rfl (hb hby at_139) rfl (l' := #[.val (.int u0), .val (.int u1), .val (.int u2), .val (.int u3), .val (.int u4), .val (.int (4 : Int32)), .val (.int (u1.toInt8.toInt32)), .val (.int (u2.toInt8.toInt32)), .val (.int (u3.toInt8.toInt32)), .val (.int (u4.toInt8.toInt32)), .val (.ref b71), .val (.int (0 : Int32))]) rfl k) ?_
          show own_Go _ _ _ _ (T82.setTop (mkF m 141 #[.val (.int u0), .val (.int u1), .val (.int u2), .val (.int u3), .val (.int u4), .val (.int (4 : Int32)), .val (.int (u1.toInt8.toInt32)), .val (.int (u2.toInt8.toInt32)), .val (.int (u3.toInt8.toInt32)), .val (.int (u4.toInt8.toInt32)), .val (.ref b71), .val (.int (0 : Int32))] []))
          refine own_st (fun _ k => XS.aload X82.here hx rfl (hb hby at_141) rfl rfl k) ?_
          show own_Go _ _ _ _ (T82.setTop (mkF m 143 #[.val (.int u0), .val (.int u1), .val (.int u2), .val (.int u3), .val (.int u4), .val (.int (4 : Int32)), .val (.int (u1.toInt8.toInt32)), .val (.int (u2.toInt8.toInt32)), .val (.int (u3.toInt8.toInt32)), .val (.int (u4.toInt8.toInt32)), .val (.ref b71), .val (.int (0 : Int32))] [(.ref b71)]))
          obtain ⟨_, _, ⟨T84, L84, k84, n84⟩, -, X84, ⟨Lc84, hQ84, l84, y84, z84⟩, st84⟩ := Jvm.LawKit.callS X82 hx (y := (⟨"quillvax/mllp/Mllp", "carries", "([B)Z"⟩ : MethodName)) hown (mvT hZ (hw _ (List.mem_of_getElem? (i := 2) rfl))) (mvT hZ (hw _ (List.mem_of_getElem? (i := 3) rfl))) (mvT hZ (hw _ (List.mem_of_getElem? (i := 4) rfl))) (mvT hZ (hw _ (List.mem_of_getElem? (i := 5) rfl))) (by decide) (backOf (W := 0) (rm1_4 l Z a0 hw [] b71 k71 (u1.toInt8.toInt32) (u2.toInt8.toInt32) (u3.toInt8.toInt32) (u4.toInt8.toInt32) h75 n0 Z75 V75') hZ (hw _ (List.mem_of_getElem? (i := 5) rfl)) (hw _ (List.mem_of_getElem? (i := 4) rfl)) (by decide) (by decide)) (g := (mkF m 143 #[.val (.int u0), .val (.int u1), .val (.int u2), .val (.int u3), .val (.int u4), .val (.int (4 : Int32)), .val (.int (u1.toInt8.toInt32)), .val (.int (u2.toInt8.toInt32)), .val (.int (u3.toInt8.toInt32)), .val (.int (u4.toInt8.toInt32)), .val (.ref b71), .val (.int (0 : Int32))] [(.ref b71)])) rfl (by rw [hml]; rfl) (argsL := [(.ref b71)]) (rest := []) (lenOf own_pd1 rfl) rfl (by show 2 * 0 + _ ≤ _; exact Nat.le_of_eq rfl) (hb hby at_143) (fun _ _ => ⟨rfl, eq82, (by decide : 1 + 0 ≤ _), (by decide : 4 + 0 ≤ _)⟩)
          dsimp only [Pt.U, Pt.locs, Pt.cells, Pt.slots] at X84 l84 y84 z84 st84 hQ84
          subst l84 y84 z84
          obtain ⟨rfl, Nq84, eq84⟩ := hQ84
          have N84 := Fr.app N82 Nq84
          refine own_st st84 ?_
          show own_Go _ _ _ _ (T84.setTop (mkF m 146 #[.val (.int u0), .val (.int u1), .val (.int u2), .val (.int u3), .val (.int u4), .val (.int (4 : Int32)), .val (.int (u1.toInt8.toInt32)), .val (.int (u2.toInt8.toInt32)), .val (.int (u3.toInt8.toInt32)), .val (.int (u4.toInt8.toInt32)), .val (.ref b71), .val (.int (0 : Int32))] [(.int (own_ca4 (u1.toInt8.toInt32) (u2.toInt8.toInt32) (u3.toInt8.toInt32) (u4.toInt8.toInt32)))]))
          refine own_st (fun _ k => XS.iload X84.here hx rfl (hb hby at_146) rfl k) ?_
          show own_Go _ _ _ _ (T84.setTop (mkF m 148 #[.val (.int u0), .val (.int u1), .val (.int u2), .val (.int u3), .val (.int u4), .val (.int (4 : Int32)), .val (.int (u1.toInt8.toInt32)), .val (.int (u2.toInt8.toInt32)), .val (.int (u3.toInt8.toInt32)), .val (.int (u4.toInt8.toInt32)), .val (.ref b71), .val (.int (0 : Int32))] [(.int (0 : Int32)), (.int (own_ca4 (u1.toInt8.toInt32) (u2.toInt8.toInt32) (u3.toInt8.toInt32) (u4.toInt8.toInt32)))]))
          refine own_st (fun _ k => XS.icmpNo X84.here hx rfl (hb hby at_148) rfl (teq (by
              unfold own_ca4
              rcases (own_cl_iff u3).mp hc83 with z | z
              · rw [if_neg (own_no u1 hc77).1, if_neg (own_no u1 hc77).2, if_neg (own_no u2 hc80).1, if_neg (own_no u2 hc80).2, if_pos z]
              · rw [if_neg (own_no u1 hc77).1, if_neg (own_no u1 hc77).2, if_neg (own_no u2 hc80).1, if_neg (own_no u2 hc80).2, if_neg (by rw [z]; decide), if_pos z])).2 k) ?_
          show own_Go _ _ _ _ (T84.setTop (mkF m 151 #[.val (.int u0), .val (.int u1), .val (.int u2), .val (.int u3), .val (.int u4), .val (.int (4 : Int32)), .val (.int (u1.toInt8.toInt32)), .val (.int (u2.toInt8.toInt32)), .val (.int (u3.toInt8.toInt32)), .val (.int (u4.toInt8.toInt32)), .val (.ref b71), .val (.int (0 : Int32))] []))
          refine own_st (fun _ k => XS.iconst X84.here hx rfl (hb hby at_151) k) ?_
          show own_Go _ _ _ _ (T84.setTop (mkF m 152 #[.val (.int u0), .val (.int u1), .val (.int u2), .val (.int u3), .val (.int u4), .val (.int (4 : Int32)), .val (.int (u1.toInt8.toInt32)), .val (.int (u2.toInt8.toInt32)), .val (.int (u3.toInt8.toInt32)), .val (.int (u4.toInt8.toInt32)), .val (.ref b71), .val (.int (0 : Int32))] [(.int (1 : Int32))]))
          refine own_st (fun _ k => XS.goto X84.here hx rfl (pc0 := 152) (pc' := 156) rfl (hb hby at_152) (by decide) (by decide) k) ?_
          show own_Go _ _ _ _ (T84.setTop (mkF m 156 #[.val (.int u0), .val (.int u1), .val (.int u2), .val (.int u3), .val (.int u4), .val (.int (4 : Int32)), .val (.int (u1.toInt8.toInt32)), .val (.int (u2.toInt8.toInt32)), .val (.int (u3.toInt8.toInt32)), .val (.int (u4.toInt8.toInt32)), .val (.ref b71), .val (.int (0 : Int32))] [(.int (1 : Int32))]))
          obtain ⟨fs, hr, hrun, hended, hW, hsame⟩ := X84.leave (v := some (.int (1 : Int32))) (fun h => by rw [Bd.returns] at h; cases h)
          refine own_out (retN X84 hx (t := .boolean) Bd.returns (by simp) (hb hby at_156) hr) ⟨hrun, hended, _, _, rfl, ?_, ⟨_, rfl⟩, hW, hsame.mono (by decide) (by decide)⟩
          show Q0 Z u0 u1 u2 u3 u4 h0 n0 _ T84.heap _
          exact ⟨rfl, N84⟩
        · skip
          refine own_st (fun _ k => XS.ifNo X82.here hx rfl (hb hby at_117) rfl ((if0 _ _).trans (feq hc83).1) k) ?_
          show own_Go _ _ _ _ (T82.setTop (mkF m 120 #[.val (.int u0), .val (.int u1), .val (.int u2), .val (.int u3), .val (.int u4), .val (.int (4 : Int32)), .val (.int (u1.toInt8.toInt32)), .val (.int (u2.toInt8.toInt32)), .val (.int (u3.toInt8.toInt32)), .val (.int (u4.toInt8.toInt32)), .val (.ref b71), .unset] []))
          refine own_st (fun _ k => XS.iload X82.here hx rfl (hb hby at_120) rfl k) ?_
          show own_Go _ _ _ _ (T82.setTop (mkF m 122 #[.val (.int u0), .val (.int u1), .val (.int u2), .val (.int u3), .val (.int u4), .val (.int (4 : Int32)), .val (.int (u1.toInt8.toInt32)), .val (.int (u2.toInt8.toInt32)), .val (.int (u3.toInt8.toInt32)), .val (.int (u4.toInt8.toInt32)), .val (.ref b71), .unset] [(.int (4 : Int32))]))
          refine own_st (fun _ k => XS.iconst X82.here hx rfl (hb hby at_122) k) ?_
          show own_Go _ _ _ _ (T82.setTop (mkF m 123 #[.val (.int u0), .val (.int u1), .val (.int u2), .val (.int u3), .val (.int u4), .val (.int (4 : Int32)), .val (.int (u1.toInt8.toInt32)), .val (.int (u2.toInt8.toInt32)), .val (.int (u3.toInt8.toInt32)), .val (.int (u4.toInt8.toInt32)), .val (.ref b71), .unset] [(.int (4 : Int32)), (.int (4 : Int32))]))
          refine own_st (fun _ k => XS.icmpNo X82.here hx rfl (hb hby at_123) rfl (flt (by decide : ¬ ((4 : Int32) < (4 : Int32)))).1 k) ?_
          show own_Go _ _ _ _ (T82.setTop (mkF m 126 #[.val (.int u0), .val (.int u1), .val (.int u2), .val (.int u3), .val (.int u4), .val (.int (4 : Int32)), .val (.int (u1.toInt8.toInt32)), .val (.int (u2.toInt8.toInt32)), .val (.int (u3.toInt8.toInt32)), .val (.int (u4.toInt8.toInt32)), .val (.ref b71), .unset] []))
          refine own_st (fun _ k => XS.iload X82.here hx rfl (hb hby at_126) rfl k) ?_
          show own_Go _ _ _ _ (T82.setTop (mkF m 128 #[.val (.int u0), .val (.int u1), .val (.int u2), .val (.int u3), .val (.int u4), .val (.int (4 : Int32)), .val (.int (u1.toInt8.toInt32)), .val (.int (u2.toInt8.toInt32)), .val (.int (u3.toInt8.toInt32)), .val (.int (u4.toInt8.toInt32)), .val (.ref b71), .unset] [(.int (u4.toInt8.toInt32))]))
          obtain ⟨_, _, ⟨T85, L85, k85, n85⟩, -, X85, ⟨Lc85, hQ85, l85, y85, z85⟩, st85⟩ := Jvm.LawKit.callS X82 hx (y := (⟨"quillvax/mllp/MllpCarriesPinLaw", "clean", "(B)Z"⟩ : MethodName)) hown (mvT hZ (hw _ (List.mem_of_getElem? (i := 6) rfl))) (mvT hZ (hw _ (List.mem_of_getElem? (i := 7) rfl))) (mvT hZ (hw _ (List.mem_of_getElem? (i := 8) rfl))) (mvT hZ (hw _ (List.mem_of_getElem? (i := 9) rfl))) (by decide) (backOf (W := 0) (rm2 l Z a0 hw [] (u4.toInt8.toInt32) h75 n0 Z75 ) hZ (hw _ (List.mem_of_getElem? (i := 9) rfl)) (hw _ (List.mem_of_getElem? (i := 8) rfl)) (by decide) (by decide)) (g := (mkF m 128 #[.val (.int u0), .val (.int u1), .val (.int u2), .val (.int u3), .val (.int u4), .val (.int (4 : Int32)), .val (.int (u1.toInt8.toInt32)), .val (.int (u2.toInt8.toInt32)), .val (.int (u3.toInt8.toInt32)), .val (.int (u4.toInt8.toInt32)), .val (.ref b71), .unset] [(.int (u4.toInt8.toInt32))])) rfl (by rw [hml]; rfl) (argsL := [(.int (u4.toInt8.toInt32))]) (rest := []) (lenOf own_pd0 rfl) rfl (by show 2 * 0 + _ ≤ _; exact Nat.le_of_eq rfl) (hb hby at_128) (fun _ _ => ⟨rfl, eq82, (by decide : 1 + 0 ≤ _), (by decide : 4 + 0 ≤ _)⟩)
          dsimp only [Pt.U, Pt.locs, Pt.cells, Pt.slots] at X85 l85 y85 z85 st85 hQ85
          subst l85 y85 z85
          obtain ⟨rfl, Nq85, eq85⟩ := hQ85
          have N85 := Fr.app N82 Nq85
          refine own_st st85 ?_
          show own_Go _ _ _ _ (T85.setTop (mkF m 131 #[.val (.int u0), .val (.int u1), .val (.int u2), .val (.int u3), .val (.int u4), .val (.int (4 : Int32)), .val (.int (u1.toInt8.toInt32)), .val (.int (u2.toInt8.toInt32)), .val (.int (u3.toInt8.toInt32)), .val (.int (u4.toInt8.toInt32)), .val (.ref b71), .unset] [(.int (own_cl (u4.toInt8.toInt32)))]))
          by_cases hc86 : (own_cl (u4.toInt8.toInt32)) = (0 : Int32)
          · skip
            refine own_st (fun _ k => XS.ifYes X85.here hx rfl (pc0 := 131) (pc' := 138) rfl (hb hby at_131) rfl ((if0 _ _).trans (teq hc86).1) (by decide) (by decide) k) ?_
            show own_Go _ _ _ _ (T85.setTop (mkF m 138 #[.val (.int u0), .val (.int u1), .val (.int u2), .val (.int u3), .val (.int u4), .val (.int (4 : Int32)), .val (.int (u1.toInt8.toInt32)), .val (.int (u2.toInt8.toInt32)), .val (.int (u3.toInt8.toInt32)), .val (.int (u4.toInt8.toInt32)), .val (.ref b71), .unset] []))
            refine own_st (fun _ k => XS.iconst X85.here hx rfl (hb hby at_138) k) ?_
            show own_Go _ _ _ _ (T85.setTop (mkF m 139 #[.val (.int u0), .val (.int u1), .val (.int u2), .val (.int u3), .val (.int u4), .val (.int (4 : Int32)), .val (.int (u1.toInt8.toInt32)), .val (.int (u2.toInt8.toInt32)), .val (.int (u3.toInt8.toInt32)), .val (.int (u4.toInt8.toInt32)), .val (.ref b71), .unset] [(.int (0 : Int32))]))
            refine own_st (fun _ k => XS.istore X85.here hx rfl (hb hby at_139) rfl (l' := #[.val (.int u0), .val (.int u1), .val (.int u2), .val (.int u3), .val (.int u4), .val (.int (4 : Int32)), .val (.int (u1.toInt8.toInt32)), .val (.int (u2.toInt8.toInt32)), .val (.int (u3.toInt8.toInt32)), .val (.int (u4.toInt8.toInt32)), .val (.ref b71), .val (.int (0 : Int32))]) rfl k) ?_
            show own_Go _ _ _ _ (T85.setTop (mkF m 141 #[.val (.int u0), .val (.int u1), .val (.int u2), .val (.int u3), .val (.int u4), .val (.int (4 : Int32)), .val (.int (u1.toInt8.toInt32)), .val (.int (u2.toInt8.toInt32)), .val (.int (u3.toInt8.toInt32)), .val (.int (u4.toInt8.toInt32)), .val (.ref b71), .val (.int (0 : Int32))] []))
            refine own_st (fun _ k => XS.aload X85.here hx rfl (hb hby at_141) rfl rfl k) ?_
            show own_Go _ _ _ _ (T85.setTop (mkF m 143 #[.val (.int u0), .val (.int u1), .val (.int u2), .val (.int u3), .val (.int u4), .val (.int (4 : Int32)), .val (.int (u1.toInt8.toInt32)), .val (.int (u2.toInt8.toInt32)), .val (.int (u3.toInt8.toInt32)), .val (.int (u4.toInt8.toInt32)), .val (.ref b71), .val (.int (0 : Int32))] [(.ref b71)]))
            obtain ⟨_, _, ⟨T87, L87, k87, n87⟩, -, X87, ⟨Lc87, hQ87, l87, y87, z87⟩, st87⟩ := Jvm.LawKit.callS X85 hx (y := (⟨"quillvax/mllp/Mllp", "carries", "([B)Z"⟩ : MethodName)) hown (mvT hZ (hw _ (List.mem_of_getElem? (i := 2) rfl))) (mvT hZ (hw _ (List.mem_of_getElem? (i := 3) rfl))) (mvT hZ (hw _ (List.mem_of_getElem? (i := 4) rfl))) (mvT hZ (hw _ (List.mem_of_getElem? (i := 5) rfl))) (by decide) (backOf (W := 0) (rm1_4 l Z a0 hw [] b71 k71 (u1.toInt8.toInt32) (u2.toInt8.toInt32) (u3.toInt8.toInt32) (u4.toInt8.toInt32) h75 n0 Z75 V75') hZ (hw _ (List.mem_of_getElem? (i := 5) rfl)) (hw _ (List.mem_of_getElem? (i := 4) rfl)) (by decide) (by decide)) (g := (mkF m 143 #[.val (.int u0), .val (.int u1), .val (.int u2), .val (.int u3), .val (.int u4), .val (.int (4 : Int32)), .val (.int (u1.toInt8.toInt32)), .val (.int (u2.toInt8.toInt32)), .val (.int (u3.toInt8.toInt32)), .val (.int (u4.toInt8.toInt32)), .val (.ref b71), .val (.int (0 : Int32))] [(.ref b71)])) rfl (by rw [hml]; rfl) (argsL := [(.ref b71)]) (rest := []) (lenOf own_pd1 rfl) rfl (by show 2 * 0 + _ ≤ _; exact Nat.le_of_eq rfl) (hb hby at_143) (fun _ _ => ⟨rfl, eq85, (by decide : 1 + 0 ≤ _), (by decide : 4 + 0 ≤ _)⟩)
            dsimp only [Pt.U, Pt.locs, Pt.cells, Pt.slots] at X87 l87 y87 z87 st87 hQ87
            subst l87 y87 z87
            obtain ⟨rfl, Nq87, eq87⟩ := hQ87
            have N87 := Fr.app N85 Nq87
            refine own_st st87 ?_
            show own_Go _ _ _ _ (T87.setTop (mkF m 146 #[.val (.int u0), .val (.int u1), .val (.int u2), .val (.int u3), .val (.int u4), .val (.int (4 : Int32)), .val (.int (u1.toInt8.toInt32)), .val (.int (u2.toInt8.toInt32)), .val (.int (u3.toInt8.toInt32)), .val (.int (u4.toInt8.toInt32)), .val (.ref b71), .val (.int (0 : Int32))] [(.int (own_ca4 (u1.toInt8.toInt32) (u2.toInt8.toInt32) (u3.toInt8.toInt32) (u4.toInt8.toInt32)))]))
            refine own_st (fun _ k => XS.iload X87.here hx rfl (hb hby at_146) rfl k) ?_
            show own_Go _ _ _ _ (T87.setTop (mkF m 148 #[.val (.int u0), .val (.int u1), .val (.int u2), .val (.int u3), .val (.int u4), .val (.int (4 : Int32)), .val (.int (u1.toInt8.toInt32)), .val (.int (u2.toInt8.toInt32)), .val (.int (u3.toInt8.toInt32)), .val (.int (u4.toInt8.toInt32)), .val (.ref b71), .val (.int (0 : Int32))] [(.int (0 : Int32)), (.int (own_ca4 (u1.toInt8.toInt32) (u2.toInt8.toInt32) (u3.toInt8.toInt32) (u4.toInt8.toInt32)))]))
            refine own_st (fun _ k => XS.icmpNo X87.here hx rfl (hb hby at_148) rfl (teq (by
                unfold own_ca4
                rcases (own_cl_iff u4).mp hc86 with z | z
                · rw [if_neg (own_no u1 hc77).1, if_neg (own_no u1 hc77).2, if_neg (own_no u2 hc80).1, if_neg (own_no u2 hc80).2, if_neg (own_no u3 hc83).1, if_neg (own_no u3 hc83).2, if_pos z]
                · rw [if_neg (own_no u1 hc77).1, if_neg (own_no u1 hc77).2, if_neg (own_no u2 hc80).1, if_neg (own_no u2 hc80).2, if_neg (own_no u3 hc83).1, if_neg (own_no u3 hc83).2, if_neg (by rw [z]; decide), if_pos z])).2 k) ?_
            show own_Go _ _ _ _ (T87.setTop (mkF m 151 #[.val (.int u0), .val (.int u1), .val (.int u2), .val (.int u3), .val (.int u4), .val (.int (4 : Int32)), .val (.int (u1.toInt8.toInt32)), .val (.int (u2.toInt8.toInt32)), .val (.int (u3.toInt8.toInt32)), .val (.int (u4.toInt8.toInt32)), .val (.ref b71), .val (.int (0 : Int32))] []))
            refine own_st (fun _ k => XS.iconst X87.here hx rfl (hb hby at_151) k) ?_
            show own_Go _ _ _ _ (T87.setTop (mkF m 152 #[.val (.int u0), .val (.int u1), .val (.int u2), .val (.int u3), .val (.int u4), .val (.int (4 : Int32)), .val (.int (u1.toInt8.toInt32)), .val (.int (u2.toInt8.toInt32)), .val (.int (u3.toInt8.toInt32)), .val (.int (u4.toInt8.toInt32)), .val (.ref b71), .val (.int (0 : Int32))] [(.int (1 : Int32))]))
            refine own_st (fun _ k => XS.goto X87.here hx rfl (pc0 := 152) (pc' := 156) rfl (hb hby at_152) (by decide) (by decide) k) ?_
            show own_Go _ _ _ _ (T87.setTop (mkF m 156 #[.val (.int u0), .val (.int u1), .val (.int u2), .val (.int u3), .val (.int u4), .val (.int (4 : Int32)), .val (.int (u1.toInt8.toInt32)), .val (.int (u2.toInt8.toInt32)), .val (.int (u3.toInt8.toInt32)), .val (.int (u4.toInt8.toInt32)), .val (.ref b71), .val (.int (0 : Int32))] [(.int (1 : Int32))]))
            obtain ⟨fs, hr, hrun, hended, hW, hsame⟩ := X87.leave (v := some (.int (1 : Int32))) (fun h => by rw [Bd.returns] at h; cases h)
            refine own_out (retN X87 hx (t := .boolean) Bd.returns (by simp) (hb hby at_156) hr) ⟨hrun, hended, _, _, rfl, ?_, ⟨_, rfl⟩, hW, hsame.mono (by decide) (by decide)⟩
            show Q0 Z u0 u1 u2 u3 u4 h0 n0 _ T87.heap _
            exact ⟨rfl, N87⟩
          · skip
            refine own_st (fun _ k => XS.ifNo X85.here hx rfl (hb hby at_131) rfl ((if0 _ _).trans (feq hc86).1) k) ?_
            show own_Go _ _ _ _ (T85.setTop (mkF m 134 #[.val (.int u0), .val (.int u1), .val (.int u2), .val (.int u3), .val (.int u4), .val (.int (4 : Int32)), .val (.int (u1.toInt8.toInt32)), .val (.int (u2.toInt8.toInt32)), .val (.int (u3.toInt8.toInt32)), .val (.int (u4.toInt8.toInt32)), .val (.ref b71), .unset] []))
            refine own_st (fun _ k => XS.iconst X85.here hx rfl (hb hby at_134) k) ?_
            show own_Go _ _ _ _ (T85.setTop (mkF m 135 #[.val (.int u0), .val (.int u1), .val (.int u2), .val (.int u3), .val (.int u4), .val (.int (4 : Int32)), .val (.int (u1.toInt8.toInt32)), .val (.int (u2.toInt8.toInt32)), .val (.int (u3.toInt8.toInt32)), .val (.int (u4.toInt8.toInt32)), .val (.ref b71), .unset] [(.int (1 : Int32))]))
            refine own_st (fun _ k => XS.goto X85.here hx rfl (pc0 := 135) (pc' := 139) rfl (hb hby at_135) (by decide) (by decide) k) ?_
            show own_Go _ _ _ _ (T85.setTop (mkF m 139 #[.val (.int u0), .val (.int u1), .val (.int u2), .val (.int u3), .val (.int u4), .val (.int (4 : Int32)), .val (.int (u1.toInt8.toInt32)), .val (.int (u2.toInt8.toInt32)), .val (.int (u3.toInt8.toInt32)), .val (.int (u4.toInt8.toInt32)), .val (.ref b71), .unset] [(.int (1 : Int32))]))
            refine own_st (fun _ k => XS.istore X85.here hx rfl (hb hby at_139) rfl (l' := #[.val (.int u0), .val (.int u1), .val (.int u2), .val (.int u3), .val (.int u4), .val (.int (4 : Int32)), .val (.int (u1.toInt8.toInt32)), .val (.int (u2.toInt8.toInt32)), .val (.int (u3.toInt8.toInt32)), .val (.int (u4.toInt8.toInt32)), .val (.ref b71), .val (.int (1 : Int32))]) rfl k) ?_
            show own_Go _ _ _ _ (T85.setTop (mkF m 141 #[.val (.int u0), .val (.int u1), .val (.int u2), .val (.int u3), .val (.int u4), .val (.int (4 : Int32)), .val (.int (u1.toInt8.toInt32)), .val (.int (u2.toInt8.toInt32)), .val (.int (u3.toInt8.toInt32)), .val (.int (u4.toInt8.toInt32)), .val (.ref b71), .val (.int (1 : Int32))] []))
            refine own_st (fun _ k => XS.aload X85.here hx rfl (hb hby at_141) rfl rfl k) ?_
            show own_Go _ _ _ _ (T85.setTop (mkF m 143 #[.val (.int u0), .val (.int u1), .val (.int u2), .val (.int u3), .val (.int u4), .val (.int (4 : Int32)), .val (.int (u1.toInt8.toInt32)), .val (.int (u2.toInt8.toInt32)), .val (.int (u3.toInt8.toInt32)), .val (.int (u4.toInt8.toInt32)), .val (.ref b71), .val (.int (1 : Int32))] [(.ref b71)]))
            obtain ⟨_, _, ⟨T88, L88, k88, n88⟩, -, X88, ⟨Lc88, hQ88, l88, y88, z88⟩, st88⟩ := Jvm.LawKit.callS X85 hx (y := (⟨"quillvax/mllp/Mllp", "carries", "([B)Z"⟩ : MethodName)) hown (mvT hZ (hw _ (List.mem_of_getElem? (i := 2) rfl))) (mvT hZ (hw _ (List.mem_of_getElem? (i := 3) rfl))) (mvT hZ (hw _ (List.mem_of_getElem? (i := 4) rfl))) (mvT hZ (hw _ (List.mem_of_getElem? (i := 5) rfl))) (by decide) (backOf (W := 0) (rm1_4 l Z a0 hw [] b71 k71 (u1.toInt8.toInt32) (u2.toInt8.toInt32) (u3.toInt8.toInt32) (u4.toInt8.toInt32) h75 n0 Z75 V75') hZ (hw _ (List.mem_of_getElem? (i := 5) rfl)) (hw _ (List.mem_of_getElem? (i := 4) rfl)) (by decide) (by decide)) (g := (mkF m 143 #[.val (.int u0), .val (.int u1), .val (.int u2), .val (.int u3), .val (.int u4), .val (.int (4 : Int32)), .val (.int (u1.toInt8.toInt32)), .val (.int (u2.toInt8.toInt32)), .val (.int (u3.toInt8.toInt32)), .val (.int (u4.toInt8.toInt32)), .val (.ref b71), .val (.int (1 : Int32))] [(.ref b71)])) rfl (by rw [hml]; rfl) (argsL := [(.ref b71)]) (rest := []) (lenOf own_pd1 rfl) rfl (by show 2 * 0 + _ ≤ _; exact Nat.le_of_eq rfl) (hb hby at_143) (fun _ _ => ⟨rfl, eq85, (by decide : 1 + 0 ≤ _), (by decide : 4 + 0 ≤ _)⟩)
            dsimp only [Pt.U, Pt.locs, Pt.cells, Pt.slots] at X88 l88 y88 z88 st88 hQ88
            subst l88 y88 z88
            obtain ⟨rfl, Nq88, eq88⟩ := hQ88
            have N88 := Fr.app N85 Nq88
            refine own_st st88 ?_
            show own_Go _ _ _ _ (T88.setTop (mkF m 146 #[.val (.int u0), .val (.int u1), .val (.int u2), .val (.int u3), .val (.int u4), .val (.int (4 : Int32)), .val (.int (u1.toInt8.toInt32)), .val (.int (u2.toInt8.toInt32)), .val (.int (u3.toInt8.toInt32)), .val (.int (u4.toInt8.toInt32)), .val (.ref b71), .val (.int (1 : Int32))] [(.int (own_ca4 (u1.toInt8.toInt32) (u2.toInt8.toInt32) (u3.toInt8.toInt32) (u4.toInt8.toInt32)))]))
            refine own_st (fun _ k => XS.iload X88.here hx rfl (hb hby at_146) rfl k) ?_
            show own_Go _ _ _ _ (T88.setTop (mkF m 148 #[.val (.int u0), .val (.int u1), .val (.int u2), .val (.int u3), .val (.int u4), .val (.int (4 : Int32)), .val (.int (u1.toInt8.toInt32)), .val (.int (u2.toInt8.toInt32)), .val (.int (u3.toInt8.toInt32)), .val (.int (u4.toInt8.toInt32)), .val (.ref b71), .val (.int (1 : Int32))] [(.int (1 : Int32)), (.int (own_ca4 (u1.toInt8.toInt32) (u2.toInt8.toInt32) (u3.toInt8.toInt32) (u4.toInt8.toInt32)))]))
            refine own_st (fun _ k => XS.icmpNo X88.here hx rfl (hb hby at_148) rfl (teq (by unfold own_ca4; rw [if_neg (own_no u1 hc77).1, if_neg (own_no u1 hc77).2, if_neg (own_no u2 hc80).1, if_neg (own_no u2 hc80).2, if_neg (own_no u3 hc83).1, if_neg (own_no u3 hc83).2, if_neg (own_no u4 hc86).1, if_neg (own_no u4 hc86).2])).2 k) ?_
            show own_Go _ _ _ _ (T88.setTop (mkF m 151 #[.val (.int u0), .val (.int u1), .val (.int u2), .val (.int u3), .val (.int u4), .val (.int (4 : Int32)), .val (.int (u1.toInt8.toInt32)), .val (.int (u2.toInt8.toInt32)), .val (.int (u3.toInt8.toInt32)), .val (.int (u4.toInt8.toInt32)), .val (.ref b71), .val (.int (1 : Int32))] []))
            refine own_st (fun _ k => XS.iconst X88.here hx rfl (hb hby at_151) k) ?_
            show own_Go _ _ _ _ (T88.setTop (mkF m 152 #[.val (.int u0), .val (.int u1), .val (.int u2), .val (.int u3), .val (.int u4), .val (.int (4 : Int32)), .val (.int (u1.toInt8.toInt32)), .val (.int (u2.toInt8.toInt32)), .val (.int (u3.toInt8.toInt32)), .val (.int (u4.toInt8.toInt32)), .val (.ref b71), .val (.int (1 : Int32))] [(.int (1 : Int32))]))
            refine own_st (fun _ k => XS.goto X88.here hx rfl (pc0 := 152) (pc' := 156) rfl (hb hby at_152) (by decide) (by decide) k) ?_
            show own_Go _ _ _ _ (T88.setTop (mkF m 156 #[.val (.int u0), .val (.int u1), .val (.int u2), .val (.int u3), .val (.int u4), .val (.int (4 : Int32)), .val (.int (u1.toInt8.toInt32)), .val (.int (u2.toInt8.toInt32)), .val (.int (u3.toInt8.toInt32)), .val (.int (u4.toInt8.toInt32)), .val (.ref b71), .val (.int (1 : Int32))] [(.int (1 : Int32))]))
            obtain ⟨fs, hr, hrun, hended, hW, hsame⟩ := X88.leave (v := some (.int (1 : Int32))) (fun h => by rw [Bd.returns] at h; cases h)
            refine own_out (retN X88 hx (t := .boolean) Bd.returns (by simp) (hb hby at_156) hr) ⟨hrun, hended, _, _, rfl, ?_, ⟨_, rfl⟩, hW, hsame.mono (by decide) (by decide)⟩
            show Q0 Z u0 u1 u2 u3 u4 h0 n0 _ T88.heap _
            exact ⟨rfl, N88⟩
set_option maxRecDepth 65536 in
set_option maxHeartbeats 40000000 in
theorem comes_1 {Post : Tables → Env → Array Value → State → Outcome → State → Prop} (hpost : ∀ tb e args s v u, (limb_1_1.after args s (.returned v) u = true ∧ limb_1_2.after args s (.returned v) u = true ∧ True) → FrameEnd s (.returned v) u (Jvm.fieldLocs frame_1_writes args s ++ Jvm.arrayLocs frame_1_arrays args s ++ Jvm.staticLocs frame_1_statics s) 16 128 → Post tb e args s (.returned v) u) :
    ArmFor flags0 classFile x code maxLocals ret World_1 tables_1 room_1 Calls_1 rest_1 Pre_1 Post := by
  intro l hfl _ _ p e ha hc hk s m args below hf hA hF happ hP
  obtain ⟨hcalls, hrest, hpre⟩ := hP
  obtain ⟨-, -, -, hnamed, -, -, -, hat⟩ := (Spec.applies_iff hf).mp happ
  obtain ⟨hg, hn⟩ := and_e (Cond.before_iff.mp (show (Jvm.Cond.and given_1 narrow_1).before args s = true from hpre))
  obtain ⟨h1, h2⟩ := and_e hg
  obtain ⟨ha0, h2⟩ := and_e h2
  obtain ⟨ha1, h2⟩ := and_e h2
  obtain ⟨ha2, h2⟩ := and_e h2
  obtain ⟨ha3, h2⟩ := and_e h2
  have ha4 := h2
  obtain ⟨w0, w1, w2, w3, w4, rfl⟩ : ∃ w0 w1 w2 w3 w4 : Value, args = #[w0, w1, w2, w3, w4] := by
    have hs : args.size = 5 := by simpa [Cond.value, given_1] using h1
    obtain ⟨L⟩ := args
    match L, hs with
    | [w0, w1, w2, w3, w4], _ => exact ⟨w0, w1, w2, w3, w4, rfl⟩
  have hw := fun d (hd : d ∈ tables_1) => atoms_spec (ws := Jvm.Cond.code x code maxLocals ret :: tables_1) hat d (List.mem_cons_of_mem _ hd)
  obtain ⟨i0, ei0⟩ := is_v ha0
  obtain rfl : w0 = (.int i0) := Option.some.inj ei0
  obtain ⟨i1, ei1⟩ := is_v ha1
  obtain rfl : w1 = (.int i1) := Option.some.inj ei1
  obtain ⟨i2, ei2⟩ := is_v ha2
  obtain rfl : w2 = (.int i2) := Option.some.inj ei2
  obtain ⟨i3, ei3⟩ := is_v ha3
  obtain rfl : w3 = (.int i3) := Option.some.inj ei3
  obtain ⟨i4, ei4⟩ := is_v ha4
  obtain rfl : w4 = (.int i4) := Option.some.inj ei4
  obtain ⟨n, o, h1, h2, h3, _, L, rfl, ⟨rfl, N⟩, hq⟩ := rm0 l s _ hw tables_1 i0 i1 i2 i3 i4 s.heap s.heap.size (Nat.le_refl _)  p e ha hc hk s m _ below hf ((Spec.applies_iff_loose hf).mp happ).1 ⟨rfl, State.Warmed39.refl s, rfl⟩ trivial
  refine ⟨n, _, h1, h2, h3, hpost _ _ _ _ _ _ ⟨Cond.after_iff.mpr rfl, Cond.after_iff.mpr (eq_i res_at (Term.int_eval (1)) rfl), trivial⟩ ⟨hq.1, hq.2.1, (hq.2.2.sift fun y hy => Or.inr (N y hy)).mono (by decide) (by decide)⟩⟩
theorem main_1_1 : Claimed_1_1 := comes_1 fun _ _ _ _ _ _ h hF => ⟨h.1, hF⟩
theorem main_1_2 : Claimed_1_2 := comes_1 fun _ _ _ _ _ _ h hF => ⟨h.2.1, hF⟩
end Jvm.Pilot.@@N@@
namespace Jvm.Pilot.@@N@@
open Jvm Jvm.ClassFile Sem Op Lib Jvm.Free Jvm.Stand Jvm.Pilot.@@N@@.Jvm.D
/-! MADE BY PROGRAM (witnessworld.py) out of the Statement's table words and the real class files: 9 classes; the members and pool entries that the words name. The judged class is class 1, her method 1. -/
namespace start1
open Jvm.ClassFile
def u (s : String) : CpInfo := .utf8 (stringToUtf16 s)
/-- a pool by its gaps: so many unusable entries, then the entry; so many at the end -/
def gap : Nat → List CpInfo → List CpInfo
  | 0, r => r
  | n + 1, r => .unusable :: gap n r
def poolList (es : List (Nat × CpInfo)) (last : Nat) : List CpInfo := es.foldr (fun e r => gap e.1 (e.2 :: r)) (gap last [])
def pool (es : List (Nat × CpInfo)) (last : Nat) : Array CpInfo := ⟨poolList es last⟩
def fileOf (pool : Array CpInfo) (this : Nat) (attrs : Array Attribute := #[]) (ms : Array MethodInfo := #[]) (fl : Nat := 33) (sup : Nat := 0) (ifs : Array Nat := #[]) (fds : Array FieldInfo := #[]) : ClassFile where
  minorVersion := 0
  majorVersion := 65
  constantPool := pool
  accessFlags := fl
  thisClass := this
  superClass := sup
  interfaces := ifs
  fields := fds
  methods := ms
  attributes := attrs
def plain (name : String) (sup : Option ClassId) : Class where
  name := name
  kind := .ordinary
  loader := none
  accessFlags := 33
  super := sup
  interfaces := #[]
  cf := none
  fields := #[]
  methods := #[]
  instanceTypes := #[]
  staticTypes := #[]
  resolved := #[]
  callSites := []
  init := .initialized
  statics := none
  mirror := none

def pool0 : Array CpInfo := pool [(5, u "<init>"), (0, u "()V"), (1, .class_ 10), (1, u "java/lang/Object")] 113

def k0m0 : Method := { name := "<init>", desc := "()V", sig := { parameters := [], returnType := none }, accessFlags := 1, code := none }
/-- java/lang/Object -/
def k0 : Class := { plain "java/lang/Object" none with
  accessFlags := 33
  interfaces := #[]
  cf := some (fileOf pool0 8 #[] #[{ accessFlags := 1, nameIndex := 5, descriptorIndex := 6, attributes := #[] }] 33 0 #[] #[])
  fields := #[]
  methods := #[k0m0]
  instanceTypes := #[]
  staticTypes := #[]
  resolved := Array.replicate 124 none
  statics := none }

def pool1 : Array CpInfo := pool [(2, .class_ 4), (1, u "java/lang/Object"), (0, u "<init>"), (0, u "()V"), (0, .integer 2147483647), (0, .methodref 9 10), (0, .class_ 11), (0, .nameAndType 12 13), (0, u "quillvax/mllp/MllpCarriesPinLaw"), (0, u "clean"), (0, u "(B)Z"), (0, .methodref 15 16), (0, .class_ 17), (0, .nameAndType 18 19), (0, u "quillvax/mllp/Mllp"), (0, u "carries"), (0, u "([B)Z"), (2, u "law"), (0, u "(IIIII)Z")] 5

def k1m0 : Method := { name := "<init>", desc := "()V", sig := { parameters := [], returnType := none }, accessFlags := 1, code := none }
def k1c1 : Code := { maxStack := 3, maxLocals := 12, code := code, exceptionTable := #[], attributes := #[] }
def k1m1 : Method := { name := "law", desc := "(IIIII)Z", sig := { parameters := [.int, .int, .int, .int, .int], returnType := some .boolean }, accessFlags := 9, code := some k1c1 }
def k1c2 : Code := { maxStack := 2, maxLocals := 2, code := method_3_code, exceptionTable := #[], attributes := #[] }
def k1m2 : Method := { name := "clean", desc := "(B)Z", sig := { parameters := [.byte], returnType := some .boolean }, accessFlags := 10, code := some k1c2 }
/-- quillvax/mllp/MllpCarriesPinLaw -/
def k1 : Class := { plain "quillvax/mllp/MllpCarriesPinLaw" (some 0) with
  accessFlags := 49
  interfaces := #[]
  cf := some (fileOf pool1 9 #[] #[{ accessFlags := 1, nameIndex := 5, descriptorIndex := 6, attributes := #[] }, { accessFlags := 9, nameIndex := 22, descriptorIndex := 23, attributes := #[] }, { accessFlags := 10, nameIndex := 12, descriptorIndex := 13, attributes := #[] }] 49 2 #[] #[])
  fields := #[]
  methods := #[k1m0, k1m1, k1m2]
  instanceTypes := #[]
  staticTypes := #[]
  resolved := Array.replicate 29 none
  statics := none }

def pool2 : Array CpInfo := pool [(2, .class_ 4), (1, u "java/lang/Object"), (0, u "<init>"), (0, u "()V"), (0, .class_ 8), (0, u "quillvax/mllp/Mllp"), (6, u "START_BLOCK"), (0, u "B"), (2, u "END_BLOCK"), (1, u "CARRIAGE_RETURN"), (3, u "carries"), (0, u "([B)Z"), (8, .class_ 36), (0, u "quillvax/mllp/Mllp$Reader")] 2

def k2m0 : Method := { name := "<init>", desc := "()V", sig := { parameters := [], returnType := none }, accessFlags := 2, code := none }
def k2c1 : Code := { maxStack := 2, maxLocals := 5, code := prog_7_method_2_code, exceptionTable := #[], attributes := #[] }
def k2m1 : Method := { name := "carries", desc := "([B)Z", sig := { parameters := [(.array .byte)], returnType := some .boolean }, accessFlags := 9, code := some k2c1 }
/-- quillvax/mllp/Mllp -/
def k2 : Class := { plain "quillvax/mllp/Mllp" (some 0) with
  accessFlags := 49
  interfaces := #[]
  cf := some (fileOf pool2 7 #[.nestMembers #[35]] #[{ accessFlags := 2, nameIndex := 5, descriptorIndex := 6, attributes := #[] }, { accessFlags := 9, nameIndex := 25, descriptorIndex := 26, attributes := #[] }] 49 2 #[] #[{ accessFlags := 25, nameIndex := 15, descriptorIndex := 16, attributes := #[] }, { accessFlags := 24, nameIndex := 19, descriptorIndex := 16, attributes := #[] }, { accessFlags := 24, nameIndex := 21, descriptorIndex := 16, attributes := #[] }])
  fields := #[{ name := "START_BLOCK", type := .byte, accessFlags := 25, slot := 0, constantValue := 0 }, { name := "END_BLOCK", type := .byte, accessFlags := 24, slot := 1, constantValue := 0 }, { name := "CARRIAGE_RETURN", type := .byte, accessFlags := 24, slot := 2, constantValue := 0 }]
  methods := #[k2m0, k2m1]
  instanceTypes := #[]
  staticTypes := #[.byte, .byte, .byte]
  resolved := Array.replicate 39 none
  statics := none }

def pool3 : Array CpInfo := pool [(1, u "java/lang/Cloneable"), (0, .class_ 1), (0, u "java/lang/Object"), (0, .class_ 3)] 3

/-- java/lang/Cloneable -/
def k3 : Class := { plain "java/lang/Cloneable" (some 0) with
  accessFlags := 1537
  interfaces := #[]
  cf := some (fileOf pool3 2 #[] #[] 1537 4 #[] #[])
  fields := #[]
  methods := #[]
  instanceTypes := #[]
  staticTypes := #[]
  resolved := Array.replicate 8 none
  statics := none }

def pool4 : Array CpInfo := pool [(1, u "java/io/Serializable"), (0, .class_ 1), (0, u "java/lang/Object"), (0, .class_ 3)] 3

/-- java/io/Serializable -/
def k4 : Class := { plain "java/io/Serializable" (some 0) with
  accessFlags := 1537
  interfaces := #[]
  cf := some (fileOf pool4 2 #[] #[] 1537 4 #[] #[])
  fields := #[]
  methods := #[]
  instanceTypes := #[]
  staticTypes := #[]
  resolved := Array.replicate 8 none
  statics := none }

/-- the primitive byte -/
def k5 : Class := { plain "byte" none with kind := .primitive 'B', accessFlags := 0x411 }
/-- [B -/
def k6 : Class := { plain "[B" (some 0) with kind := .array 5 .byte, interfaces := #[3, 4], accessFlags := 1041 }

/-- the primitive int -/
def k7 : Class := { plain "int" none with kind := .primitive 'I', accessFlags := 0x411 }
/-- [I -/
def k8 : Class := { plain "[I" (some 0) with kind := .array 7 .int, interfaces := #[3, 4], accessFlags := 1041 }

def heap : Heap := #[]
def classes : Array Class := #[k0, k1, k2, k3, k4, k5, k6, k7, k8]
def interned : List (Array UInt16 × Addr) := []
def slotsUsed : Nat := 0
def theMethod : MethodId := ⟨1, 1⟩
def args0 : Array Value := #[.int 5, .int 5, .int 5, .int 5, .int 5]
def aboutOver (below : List Frame) : State where
  vm := { classes := classes, interned := interned.toArray }
  heap := heap
  slotsUsed := slotsUsed
  threads := #[{ frames := .invoking theMethod args0 :: below }]
def below0 : List Frame := [.native { method := ⟨0, 0⟩, args := #[] }]
def about1 : State := aboutOver below0
def p0 : Program := .bare "" "" ""
def e0 : Env := launch0.env 0 0 0
theorem w_frames : about1.frames = Frame.invoking theMethod args0 :: below0 := rfl
set_option maxRecDepth 65536 in
theorem w_args : argsFit about1.vm theMethod args0 = true := by decide +kernel
set_option maxRecDepth 65536 in
theorem w_heap : heapFits about1 = true := by decide +kernel
set_option maxRecDepth 65536 in
theorem w_runnable : about1.curStatus? = some .runnable := by decide +kernel
set_option maxRecDepth 65536 in
theorem w_alone : about1.alone = true := by decide +kernel
set_option maxRecDepth 65536 in
theorem w_named : about1.methodNamed? x = some theMethod := by decide +kernel
set_option maxRecDepth 65536 in
theorem w_hears : about1.hears theMethod below0 = true := by decide +kernel
set_option maxRecDepth 65536 in
theorem w_ripe : about1.ripe theMethod args0 below0 = true := by decide +kernel
theorem w_running : about1.status = .running := rfl
set_option maxRecDepth 65536 in
theorem w_room : about1.hasRoom e0.platform room_1 = true :=
  launch0.hasRoom_least _ room_1 (by decide +kernel) (by decide +kernel) (by decide +kernel) (by decide +kernel) (by decide +kernel) (by decide +kernel)
theorem allAtoms_all (ts : List Jvm.Cond) (a : Array Jvm.Value) (st : Jvm.State) : (allAtoms ts).before a st = ts.all (fun c => c.before a st) := by
  induction ts with
  | nil => rfl
  | cons c t ih =>
    show (Jvm.Cond.and c (allAtoms t)).before a st = _
    rw [Jvm.Cond.before_and, ih, List.all_cons]
def words1 : List Jvm.Cond := Jvm.Cond.code x code maxLocals ret :: tables_1
/-- a 'code' word, met by the world's own term for the bytes: nothing is compared byte by byte -/
theorem code_word {y : MethodName} {bytes : ByteArray} {mx : Nat} {rt : Option FieldType} {a : Array Value} {s : State} {m : MethodId} {meth : Method} {c : Code} (h1 : s.methodNamed? y = some m) (h2 : s.vm.method? m = some meth) (h3 : meth.code = some c) (h4 : c.code = bytes)
    (h5 : (c.maxLocals == mx && c.exceptionTable.isEmpty && decide (c.maxStack ≤ mostOperands) && decide (meth.sig.returnType = rt) && !meth.locks && decide (parseMethodDescriptor y.desc = some meth.sig)) = true) : (Jvm.Cond.code y bytes mx rt).before a s = true := by
  simp only [Bool.and_eq_true, beq_iff_eq, Bool.not_eq_true', decide_eq_true_eq] at h5
  obtain ⟨⟨⟨⟨⟨g1, g2⟩, g3⟩, g4⟩, g5⟩, g6⟩ := h5
  simp [Cond.before, Cond.holds, Cond.value, h1, h2, h3, h4, g1, g2, g3, g4, g5, g6]
def isCode : Jvm.Cond → Bool
  | .code _ _ _ _ => true
  | _ => false
theorem all_split {L : List Jvm.Cond} {P : Jvm.Cond → Bool} (h1 : L.all (fun c => isCode c || P c) = true) (h2 : ∀ c ∈ L.filter isCode, P c = true) : L.all P = true := by
  refine List.all_eq_true.mpr fun c hc => ?_
  have h := List.all_eq_true.mp h1 c hc
  rcases Bool.eq_false_or_eq_true (isCode c) with hi | hi
  · exact h2 c (List.mem_filter.mpr ⟨hc, hi⟩)
  · simpa [hi] using h
set_option maxRecDepth 65536 in
theorem w_c0 : (Jvm.Cond.code x code maxLocals ret).before args0 about1 = true := code_word (m := ⟨1, 1⟩) (meth := k1m1) (c := k1c1) (by decide +kernel) rfl rfl rfl (by decide +kernel)
set_option maxRecDepth 65536 in
theorem w_c1 : (Jvm.Cond.code ({ cls := "quillvax/mllp/Mllp", name := "carries", desc := "([B)Z" } : Jvm.MethodName) prog_7_method_2_code (5 : Nat) (Option.some Jvm.ClassFile.FieldType.boolean)).before args0 about1 = true := code_word (m := ⟨2, 1⟩) (meth := k2m1) (c := k2c1) (by decide +kernel) rfl rfl rfl (by decide +kernel)
set_option maxRecDepth 65536 in
theorem w_c2 : (Jvm.Cond.code ({ cls := "quillvax/mllp/MllpCarriesPinLaw", name := "clean", desc := "(B)Z" } : Jvm.MethodName) method_3_code (2 : Nat) (Option.some Jvm.ClassFile.FieldType.boolean)).before args0 about1 = true := code_word (m := ⟨1, 2⟩) (meth := k1m2) (c := k1c2) (by decide +kernel) rfl rfl rfl (by decide +kernel)
def codes1 : List Jvm.Cond := [Jvm.Cond.code x code maxLocals ret, Jvm.Cond.code ({ cls := "quillvax/mllp/Mllp", name := "carries", desc := "([B)Z" } : Jvm.MethodName) prog_7_method_2_code (5 : Nat) (Option.some Jvm.ClassFile.FieldType.boolean), Jvm.Cond.code ({ cls := "quillvax/mllp/MllpCarriesPinLaw", name := "clean", desc := "(B)Z" } : Jvm.MethodName) method_3_code (2 : Nat) (Option.some Jvm.ClassFile.FieldType.boolean)]
set_option maxRecDepth 65536 in
theorem codes_eq : words1.filter isCode = codes1 := rfl
theorem w_codes : ∀ c ∈ words1.filter isCode, c.before args0 about1 = true := by
  rw [codes_eq]
  intro c hc
  simp only [codes1, List.mem_cons, List.not_mem_nil, or_false] at hc
  rcases hc with rfl | rfl | rfl
  · exact w_c0
  · exact w_c1
  · exact w_c2
set_option maxRecDepth 65536 in
theorem w_t1 : words1.all (fun c => isCode c || c.before args0 about1) = true := by decide +kernel
theorem w_tables : (allAtoms (Jvm.Cond.code x code maxLocals ret :: tables_1)).before args0 about1 = true := by
  rw [allAtoms_all]
  show words1.all (fun c => c.before args0 about1) = true
  refine all_split ?_ w_codes
  rw [w_t1]
set_option maxRecDepth 65536 in
theorem w_case : (Jvm.Cond.and given_1 narrow_1).before args0 about1 = true := by decide +kernel
theorem w_applies : (headSpec (Jvm.Cond.code x code maxLocals ret :: tables_1) room_1).applies x e0.platform about1 = true :=
  (Spec.applies_iff w_frames).mpr ⟨w_running, w_runnable, w_alone, w_named, w_hears, w_ripe, w_room, w_tables⟩
theorem atStart : AtStart classFile x code maxLocals ret World_1 tables_1 room_1 Calls_1 rest_1 Pre_1 launch0 p0 e0 about1 theMethod args0 below0 :=
  ⟨lists_1, trivial, launch0.admits_env _ _ _, launch0.least_env, fairChoices_fair.cas, fairChoices_fair.clock, w_frames, w_args, w_heap, w_applies, trivial, trivial, w_case⟩
end start1
theorem witness_1 : WitnessClaimed_1 := ⟨start1.p0, start1.e0, start1.about1, start1.theMethod, start1.args0, start1.below0, start1.atStart⟩
end Jvm.Pilot.@@N@@
