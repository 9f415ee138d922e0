import JvmDerived
import JvmDerived.Pilot.@@N@@Statement
import JvmDerived.Pilot.@@N@@Code
set_option linter.unusedVariables false
set_option linter.unusedSimpArgs false
namespace Jvm.Pilot.@@N@@
open Jvm Jvm.ClassFile Sem Op Lib Jvm.Free Jvm.Stand Jvm.LawKit Jvm.RoadKit Bundle Jvm.Pilot.@@N@@.Jvm.D
def own_Go (tb : Tables) (e : Env) (below : List Frame) (P : State → Outcome → Prop) (A : State) : Prop := ∃ s₂ o, Steps tb e below A s₂ ∧ P s₂ o
theorem own_in {tb : Tables} {e : Env} {below : List Frame} {P : State → Outcome → Prop} {A : State} (h : own_Go tb e below P A) : ∃ s₂ o, Steps tb e below A s₂ ∧ P s₂ o := h
theorem own_st {tb : Tables} {e : Env} {below : List Frame} {P : State → Outcome → Prop} {A B : State} (h : ∀ t, Steps tb e below B t → Steps tb e below A t) (k : own_Go tb e below P B) : own_Go tb e below P A := by
  obtain ⟨s₂, o, h1, h2⟩ := k
  exact ⟨s₂, o, h _ h1, h2⟩
theorem own_tr {tb : Tables} {e : Env} {below : List Frame} {P : State → Outcome → Prop} {A B : State} (h : Steps tb e below A B) (k : own_Go tb e below P B) : own_Go tb e below P A := by
  obtain ⟨s₂, o, h1, h2⟩ := k
  exact ⟨s₂, o, h.trans h1, h2⟩
theorem own_out {tb : Tables} {e : Env} {below : List Frame} {P : State → Outcome → Prop} {A B : State} {o : Outcome} (h : Steps tb e below A B) (k : P B o) : own_Go tb e below P A := ⟨B, o, h, k⟩
theorem own_join {ι : Type} {tb : Tables} {e : Env} {below : List Frame} {P : State → Outcome → Prop} {A : State} (B : ι → State) (K : ι → Prop) (hJ : ∀ b, K b → own_Go tb e below P (B b)) (h : (∀ b, K b → own_Go tb e below P (B b)) → own_Go tb e below P A) : own_Go tb e below P A := h hJ
section Own
variable {p : Program} {l : Launch} {e : Env} {R : Room} {s : State} {m : MethodId} {args : Array Value} {below : List Frame} {meth : Method} {c : Code} {T : State} {locs : List Loc} {cells slots : Nat}
theorem own_retI (X : Stand p l e R s m args below meth c T locs cells slots) (hx : p.tables.exec = Jvm.exec) {pc : Nat} {Ls : Array Slot} {z : Int32} {rest : List Value} (hret : meth.sig.returnType = some .int) (hd : decode c.code pc = .ok (.ireturn, 1)) {fs : List Frame}
    (hl : ∀ (f : JFrame) (acts : List Action), f.method = m → f.locked = none → f.entered = [] → (doReturn e (T.setTop f) acts (some (.int z))).1 = T.setFrames fs) : Steps p.tables e below (T.setTop (mkF m pc Ls (.int z :: rest))) (T.setFrames fs) := by
  have hm' : T.vm.method? m = some meth := X.method'
  have hn : narrow .int (.int z) = .int z := rfl
  show Steps p.tables e below (T.setTop { method := m, pc := pc, locals := Ls, stack := _ :: rest, locked := none }) _
  jvm_step X.here [X.here.top, hx, hd, hm', hret, hn]
  first | (intro acts; rw [hl _ acts rfl rfl rfl]) | rw [hl _ _ rfl rfl rfl]
  exact Steps.refl _
end Own
def own_fv (u0 : Int32) : Int32 := (if u0 = (9 : Int32) then (1 : Int32) else (if u0 < (32 : Int32) then (if u0 < (128 : Int32) then (0 : Int32) else (if (255 : Int32) < u0 then (0 : Int32) else (1 : Int32))) else (if u0 < (127 : Int32) then (1 : Int32) else (if u0 < (128 : Int32) then (0 : Int32) else (if (255 : Int32) < u0 then (0 : Int32) else (1 : Int32))))))
theorem d1_0 : decode prog_39_method_7_code 0 = .ok (.iload_n 0, 1) := by decide +kernel
theorem d1_1 : decode prog_39_method_7_code 1 = .ok (.bipush 9, 2) := by decide +kernel
theorem d1_3 : decode prog_39_method_7_code 3 = .ok (.if_icmp .eq 29, 3) := by decide +kernel
theorem d1_6 : decode prog_39_method_7_code 6 = .ok (.iload_n 0, 1) := by decide +kernel
theorem d1_7 : decode prog_39_method_7_code 7 = .ok (.bipush 32, 2) := by decide +kernel
theorem d1_9 : decode prog_39_method_7_code 9 = .ok (.if_icmp .lt 9, 3) := by decide +kernel
theorem d1_12 : decode prog_39_method_7_code 12 = .ok (.iload_n 0, 1) := by decide +kernel
theorem d1_13 : decode prog_39_method_7_code 13 = .ok (.bipush 127, 2) := by decide +kernel
theorem d1_15 : decode prog_39_method_7_code 15 = .ok (.if_icmp .lt 17, 3) := by decide +kernel
theorem d1_18 : decode prog_39_method_7_code 18 = .ok (.iload_n 0, 1) := by decide +kernel
theorem d1_19 : decode prog_39_method_7_code 19 = .ok (.sipush 128, 3) := by decide +kernel
theorem d1_22 : decode prog_39_method_7_code 22 = .ok (.if_icmp .lt 14, 3) := by decide +kernel
theorem d1_25 : decode prog_39_method_7_code 25 = .ok (.iload_n 0, 1) := by decide +kernel
theorem d1_26 : decode prog_39_method_7_code 26 = .ok (.sipush 255, 3) := by decide +kernel
theorem d1_29 : decode prog_39_method_7_code 29 = .ok (.if_icmp .gt 7, 3) := by decide +kernel
theorem d1_32 : decode prog_39_method_7_code 32 = .ok (.iconst 1, 1) := by decide +kernel
theorem d1_33 : decode prog_39_method_7_code 33 = .ok (.goto 4, 3) := by decide +kernel
theorem d1_36 : decode prog_39_method_7_code 36 = .ok (.iconst 0, 1) := by decide +kernel
theorem d1_37 : decode prog_39_method_7_code 37 = .ok (.ireturn, 1) := by decide +kernel
theorem own_pd0 : parseMethodDescriptor "(C)Z" = some ⟨[.char], some .boolean⟩ := by decide +kernel
theorem own_pn0 : plainName "com/example/handler/handler/HttpSyntax" = true := by first | (simp [plainName, overriddenIn]; done) | decide +kernel
def Q1 (Z : State) (u0 : Int32) (h0 : Heap) (n0 : Nat) (v : Option Value) (h : Heap) (L : List Loc) : Prop := v = some (.int (own_fv u0)) ∧ Fr n0 L ∧ h = h0
theorem ef_1 (m : MethodId) (x0 : Int32) : entryFrame m #[(.int x0)] 1 = mkF m 0 #[.val (.int x0)] [] := by first | (simp [entryFrame, mkF, argsToLocals, Value.category]; done) | rfl
set_option maxRecDepth 65536 in
set_option maxHeartbeats 40000000 in
theorem rm1 (l : Launch) (Z : State) (a0 : Array Value) (hw : ∀ d ∈ tables_1, d.before a0 Z = true) (ws : List Jvm.Cond) (u0 : Int32) (h0 : Heap) (n0 : Nat) (Z0 : n0 ≤ h0.size)  :
    MetFree l (⟨"com/example/handler/handler/HttpSyntax", "isFieldValueChar", "(C)Z"⟩ : MethodName) (head1 (Jvm.Cond.code (⟨"com/example/handler/handler/HttpSyntax", "isFieldValueChar", "(C)Z"⟩ : MethodName) prog_39_method_7_code 1 (some .boolean) :: ws) ({ frames := 0, cells := 0, slots := 0, locals := 0 } : Room)) (fun a U => a = #[(.int u0)] ∧ Z.Warmed39 U.vm ∧ U.heap = h0) (fun _ _ _ _ _ => True) (fun _ U o U' => ∃ v L, o = .returned v ∧ Q1 Z u0 h0 n0 v U'.heap L ∧ FrameEnd U o U' L ({ frames := 0, cells := 0, slots := 0, locals := 0 } : Room).cells ({ frames := 0, cells := 0, slots := 0, locals := 0 } : Room).slots) := by
  refine MetFree.of_bodySF (plainFor_of_name own_pn0) hisR ?_
  intro p e s m args below meth c s₁ Bd hml0 hP hK
  obtain ⟨rfl, hZ, hh⟩ := hP
  have hx := Bd.exec
  have hby := Bd.bytes
  have hml : c.maxLocals = 1 := hml0
  have hown : s.vm.findClass "com/example/handler/handler/HttpSyntax" = some m.cls := findClass_of_methodNamed Bd.named
  have hnm := (name_of_methodNamed Bd.named Bd.method).1
  have X0 : Stand p l e ({ frames := 0, cells := 0, slots := 0, locals := 0 } : Room) s m #[(.int u0)] below meth c s₁ [] 0 0 := Stand.of_body Bd
  have e0 : s₁.heap = h0 := by rw [← hh, Bd.state]; rfl
  have N0 := Fr.nil n0
  refine own_in ?_
  refine own_st (fun _ k => castTop (ef_1 m u0) k) ?_
  have K0 : Keep h0 h0 [] := Keep.refl h0 []
  show own_Go _ _ _ _ (s₁.setTop (mkF m 0 #[.val (.int u0)] []))
  refine own_st (fun _ k => XS.iloadN X0.here hx rfl (hb hby d1_0) rfl k) ?_
  show own_Go _ _ _ _ (s₁.setTop (mkF m 1 #[.val (.int u0)] [(.int u0)]))
  refine own_st (fun _ k => XS.bipush X0.here hx rfl (hb hby d1_1) k) ?_
  show own_Go _ _ _ _ (s₁.setTop (mkF m 3 #[.val (.int u0)] [(.int (9 : Int32)), (.int u0)]))
  by_cases hc1 : u0 = (9 : Int32)
  · skip
    refine own_st (fun _ k => XS.icmpYes X0.here hx rfl (pc0 := 3) (pc' := 32) rfl (hb hby d1_3) rfl (teq hc1).1 (by decide) (by decide) k) ?_
    show own_Go _ _ _ _ (s₁.setTop (mkF m 32 #[.val (.int u0)] []))
    refine own_st (fun _ k => XS.iconst X0.here hx rfl (hb hby d1_32) k) ?_
    show own_Go _ _ _ _ (s₁.setTop (mkF m 33 #[.val (.int u0)] [(.int (1 : Int32))]))
    refine own_st (fun _ k => XS.goto X0.here hx rfl (pc0 := 33) (pc' := 37) rfl (hb hby d1_33) (by decide) (by decide) k) ?_
    show own_Go _ _ _ _ (s₁.setTop (mkF m 37 #[.val (.int u0)] [(.int (1 : Int32))]))
    obtain ⟨fs, hr, hrun, hended, hW, hsame⟩ := X0.leave (v := some (.int (1 : Int32))) (fun h => by rw [Bd.returns] at h; cases h)
    refine own_out (retN X0 hx (t := .boolean) Bd.returns (by simp) (hb hby d1_37) hr) ⟨hrun, hended, _, _, rfl, ?_, ⟨_, rfl⟩, hW, hsame.mono (by decide) (by decide)⟩
    show Q1 Z u0 h0 n0 _ s₁.heap _
    have hv : own_fv u0 = (1 : Int32) := by
      unfold own_fv
      rw [if_pos hc1]
    exact ⟨by rw [hv], N0, e0⟩
  · skip
    refine own_st (fun _ k => XS.icmpNo X0.here hx rfl (hb hby d1_3) rfl (feq hc1).1 k) ?_
    show own_Go _ _ _ _ (s₁.setTop (mkF m 6 #[.val (.int u0)] []))
    refine own_st (fun _ k => XS.iloadN X0.here hx rfl (hb hby d1_6) rfl k) ?_
    show own_Go _ _ _ _ (s₁.setTop (mkF m 7 #[.val (.int u0)] [(.int u0)]))
    refine own_st (fun _ k => XS.bipush X0.here hx rfl (hb hby d1_7) k) ?_
    show own_Go _ _ _ _ (s₁.setTop (mkF m 9 #[.val (.int u0)] [(.int (32 : Int32)), (.int u0)]))
    by_cases hc2 : u0 < (32 : Int32)
    · skip
      refine own_st (fun _ k => XS.icmpYes X0.here hx rfl (pc0 := 9) (pc' := 18) rfl (hb hby d1_9) rfl (tlt hc2).1 (by decide) (by decide) k) ?_
      show own_Go _ _ _ _ (s₁.setTop (mkF m 18 #[.val (.int u0)] []))
      refine own_st (fun _ k => XS.iloadN X0.here hx rfl (hb hby d1_18) rfl k) ?_
      show own_Go _ _ _ _ (s₁.setTop (mkF m 19 #[.val (.int u0)] [(.int u0)]))
      refine own_st (fun _ k => XS.sipush X0.here hx rfl (hb hby d1_19) k) ?_
      show own_Go _ _ _ _ (s₁.setTop (mkF m 22 #[.val (.int u0)] [(.int (128 : Int32)), (.int u0)]))
      by_cases hc3 : u0 < (128 : Int32)
      · skip
        refine own_st (fun _ k => XS.icmpYes X0.here hx rfl (pc0 := 22) (pc' := 36) rfl (hb hby d1_22) rfl (tlt hc3).1 (by decide) (by decide) k) ?_
        show own_Go _ _ _ _ (s₁.setTop (mkF m 36 #[.val (.int u0)] []))
        refine own_st (fun _ k => XS.iconst X0.here hx rfl (hb hby d1_36) k) ?_
        show own_Go _ _ _ _ (s₁.setTop (mkF m 37 #[.val (.int u0)] [(.int (0 : Int32))]))
        obtain ⟨fs, hr, hrun, hended, hW, hsame⟩ := X0.leave (v := some (.int (0 : Int32))) (fun h => by rw [Bd.returns] at h; cases h)
        refine own_out (retN X0 hx (t := .boolean) Bd.returns (by simp) (hb hby d1_37) hr) ⟨hrun, hended, _, _, rfl, ?_, ⟨_, rfl⟩, hW, hsame.mono (by decide) (by decide)⟩
        show Q1 Z u0 h0 n0 _ s₁.heap _
        have hv : own_fv u0 = (0 : Int32) := by
          unfold own_fv
          rw [if_neg hc1, if_pos hc2, if_pos hc3]
        exact ⟨by rw [hv], N0, e0⟩
      · skip
        refine own_st (fun _ k => XS.icmpNo X0.here hx rfl (hb hby d1_22) rfl (flt hc3).1 k) ?_
        show own_Go _ _ _ _ (s₁.setTop (mkF m 25 #[.val (.int u0)] []))
        refine own_st (fun _ k => XS.iloadN X0.here hx rfl (hb hby d1_25) rfl k) ?_
        show own_Go _ _ _ _ (s₁.setTop (mkF m 26 #[.val (.int u0)] [(.int u0)]))
        refine own_st (fun _ k => XS.sipush X0.here hx rfl (hb hby d1_26) k) ?_
        show own_Go _ _ _ _ (s₁.setTop (mkF m 29 #[.val (.int u0)] [(.int (255 : Int32)), (.int u0)]))
        by_cases hc4 : (255 : Int32) < u0
        · skip
          refine own_st (fun _ k => XS.icmpYes X0.here hx rfl (pc0 := 29) (pc' := 36) rfl (hb hby d1_29) rfl (tlt hc4).2.2.1 (by decide) (by decide) k) ?_
          show own_Go _ _ _ _ (s₁.setTop (mkF m 36 #[.val (.int u0)] []))
          refine own_st (fun _ k => XS.iconst X0.here hx rfl (hb hby d1_36) k) ?_
          show own_Go _ _ _ _ (s₁.setTop (mkF m 37 #[.val (.int u0)] [(.int (0 : Int32))]))
          obtain ⟨fs, hr, hrun, hended, hW, hsame⟩ := X0.leave (v := some (.int (0 : Int32))) (fun h => by rw [Bd.returns] at h; cases h)
          refine own_out (retN X0 hx (t := .boolean) Bd.returns (by simp) (hb hby d1_37) hr) ⟨hrun, hended, _, _, rfl, ?_, ⟨_, rfl⟩, hW, hsame.mono (by decide) (by decide)⟩
          show Q1 Z u0 h0 n0 _ s₁.heap _
          have hv : own_fv u0 = (0 : Int32) := by
            unfold own_fv
            rw [if_neg hc1, if_pos hc2, if_neg hc3, if_pos hc4]
          exact ⟨by rw [hv], N0, e0⟩
        · skip
          refine own_st (fun _ k => XS.icmpNo X0.here hx rfl (hb hby d1_29) rfl (flt hc4).2.2.1 k) ?_
          show own_Go _ _ _ _ (s₁.setTop (mkF m 32 #[.val (.int u0)] []))
          refine own_st (fun _ k => XS.iconst X0.here hx rfl (hb hby d1_32) k) ?_
          show own_Go _ _ _ _ (s₁.setTop (mkF m 33 #[.val (.int u0)] [(.int (1 : Int32))]))
          refine own_st (fun _ k => XS.goto X0.here hx rfl (pc0 := 33) (pc' := 37) rfl (hb hby d1_33) (by decide) (by decide) k) ?_
          show own_Go _ _ _ _ (s₁.setTop (mkF m 37 #[.val (.int u0)] [(.int (1 : Int32))]))
          obtain ⟨fs, hr, hrun, hended, hW, hsame⟩ := X0.leave (v := some (.int (1 : Int32))) (fun h => by rw [Bd.returns] at h; cases h)
          refine own_out (retN X0 hx (t := .boolean) Bd.returns (by simp) (hb hby d1_37) hr) ⟨hrun, hended, _, _, rfl, ?_, ⟨_, rfl⟩, hW, hsame.mono (by decide) (by decide)⟩
          show Q1 Z u0 h0 n0 _ s₁.heap _
          have hv : own_fv u0 = (1 : Int32) := by
            unfold own_fv
            rw [if_neg hc1, if_pos hc2, if_neg hc3, if_neg hc4]
          exact ⟨by rw [hv], N0, e0⟩
    · skip
      refine own_st (fun _ k => XS.icmpNo X0.here hx rfl (hb hby d1_9) rfl (flt hc2).1 k) ?_
      show own_Go _ _ _ _ (s₁.setTop (mkF m 12 #[.val (.int u0)] []))
      refine own_st (fun _ k => XS.iloadN X0.here hx rfl (hb hby d1_12) rfl k) ?_
      show own_Go _ _ _ _ (s₁.setTop (mkF m 13 #[.val (.int u0)] [(.int u0)]))
      refine own_st (fun _ k => XS.bipush X0.here hx rfl (hb hby d1_13) k) ?_
      show own_Go _ _ _ _ (s₁.setTop (mkF m 15 #[.val (.int u0)] [(.int (127 : Int32)), (.int u0)]))
      by_cases hc5 : u0 < (127 : Int32)
      · skip
        refine own_st (fun _ k => XS.icmpYes X0.here hx rfl (pc0 := 15) (pc' := 32) rfl (hb hby d1_15) rfl (tlt hc5).1 (by decide) (by decide) k) ?_
        show own_Go _ _ _ _ (s₁.setTop (mkF m 32 #[.val (.int u0)] []))
        refine own_st (fun _ k => XS.iconst X0.here hx rfl (hb hby d1_32) k) ?_
        show own_Go _ _ _ _ (s₁.setTop (mkF m 33 #[.val (.int u0)] [(.int (1 : Int32))]))
        refine own_st (fun _ k => XS.goto X0.here hx rfl (pc0 := 33) (pc' := 37) rfl (hb hby d1_33) (by decide) (by decide) k) ?_
        show own_Go _ _ _ _ (s₁.setTop (mkF m 37 #[.val (.int u0)] [(.int (1 : Int32))]))
        obtain ⟨fs, hr, hrun, hended, hW, hsame⟩ := X0.leave (v := some (.int (1 : Int32))) (fun h => by rw [Bd.returns] at h; cases h)
        refine own_out (retN X0 hx (t := .boolean) Bd.returns (by simp) (hb hby d1_37) hr) ⟨hrun, hended, _, _, rfl, ?_, ⟨_, rfl⟩, hW, hsame.mono (by decide) (by decide)⟩
        show Q1 Z u0 h0 n0 _ s₁.heap _
        have hv : own_fv u0 = (1 : Int32) := by
          unfold own_fv
          rw [if_neg hc1, if_neg hc2, if_pos hc5]
        exact ⟨by rw [hv], N0, e0⟩
      · skip
        refine own_st (fun _ k => XS.icmpNo X0.here hx rfl (hb hby d1_15) rfl (flt hc5).1 k) ?_
        show own_Go _ _ _ _ (s₁.setTop (mkF m 18 #[.val (.int u0)] []))
        refine own_st (fun _ k => XS.iloadN X0.here hx rfl (hb hby d1_18) rfl k) ?_
        show own_Go _ _ _ _ (s₁.setTop (mkF m 19 #[.val (.int u0)] [(.int u0)]))
        refine own_st (fun _ k => XS.sipush X0.here hx rfl (hb hby d1_19) k) ?_
        show own_Go _ _ _ _ (s₁.setTop (mkF m 22 #[.val (.int u0)] [(.int (128 : Int32)), (.int u0)]))
        by_cases hc6 : u0 < (128 : Int32)
        · skip
          refine own_st (fun _ k => XS.icmpYes X0.here hx rfl (pc0 := 22) (pc' := 36) rfl (hb hby d1_22) rfl (tlt hc6).1 (by decide) (by decide) k) ?_
          show own_Go _ _ _ _ (s₁.setTop (mkF m 36 #[.val (.int u0)] []))
          refine own_st (fun _ k => XS.iconst X0.here hx rfl (hb hby d1_36) k) ?_
          show own_Go _ _ _ _ (s₁.setTop (mkF m 37 #[.val (.int u0)] [(.int (0 : Int32))]))
          obtain ⟨fs, hr, hrun, hended, hW, hsame⟩ := X0.leave (v := some (.int (0 : Int32))) (fun h => by rw [Bd.returns] at h; cases h)
          refine own_out (retN X0 hx (t := .boolean) Bd.returns (by simp) (hb hby d1_37) hr) ⟨hrun, hended, _, _, rfl, ?_, ⟨_, rfl⟩, hW, hsame.mono (by decide) (by decide)⟩
          show Q1 Z u0 h0 n0 _ s₁.heap _
          have hv : own_fv u0 = (0 : Int32) := by
            unfold own_fv
            rw [if_neg hc1, if_neg hc2, if_neg hc5, if_pos hc6]
          exact ⟨by rw [hv], N0, e0⟩
        · skip
          refine own_st (fun _ k => XS.icmpNo X0.here hx rfl (hb hby d1_22) rfl (flt hc6).1 k) ?_
          show own_Go _ _ _ _ (s₁.setTop (mkF m 25 #[.val (.int u0)] []))
          refine own_st (fun _ k => XS.iloadN X0.here hx rfl (hb hby d1_25) rfl k) ?_
          show own_Go _ _ _ _ (s₁.setTop (mkF m 26 #[.val (.int u0)] [(.int u0)]))
          refine own_st (fun _ k => XS.sipush X0.here hx rfl (hb hby d1_26) k) ?_
          show own_Go _ _ _ _ (s₁.setTop (mkF m 29 #[.val (.int u0)] [(.int (255 : Int32)), (.int u0)]))
          by_cases hc7 : (255 : Int32) < u0
          · skip
            refine own_st (fun _ k => XS.icmpYes X0.here hx rfl (pc0 := 29) (pc' := 36) rfl (hb hby d1_29) rfl (tlt hc7).2.2.1 (by decide) (by decide) k) ?_
            show own_Go _ _ _ _ (s₁.setTop (mkF m 36 #[.val (.int u0)] []))
            refine own_st (fun _ k => XS.iconst X0.here hx rfl (hb hby d1_36) k) ?_
            show own_Go _ _ _ _ (s₁.setTop (mkF m 37 #[.val (.int u0)] [(.int (0 : Int32))]))
            obtain ⟨fs, hr, hrun, hended, hW, hsame⟩ := X0.leave (v := some (.int (0 : Int32))) (fun h => by rw [Bd.returns] at h; cases h)
            refine own_out (retN X0 hx (t := .boolean) Bd.returns (by simp) (hb hby d1_37) hr) ⟨hrun, hended, _, _, rfl, ?_, ⟨_, rfl⟩, hW, hsame.mono (by decide) (by decide)⟩
            show Q1 Z u0 h0 n0 _ s₁.heap _
            have hv : own_fv u0 = (0 : Int32) := by
              unfold own_fv
              rw [if_neg hc1, if_neg hc2, if_neg hc5, if_neg hc6, if_pos hc7]
            exact ⟨by rw [hv], N0, e0⟩
          · skip
            refine own_st (fun _ k => XS.icmpNo X0.here hx rfl (hb hby d1_29) rfl (flt hc7).2.2.1 k) ?_
            show own_Go _ _ _ _ (s₁.setTop (mkF m 32 #[.val (.int u0)] []))
            refine own_st (fun _ k => XS.iconst X0.here hx rfl (hb hby d1_32) k) ?_
            show own_Go _ _ _ _ (s₁.setTop (mkF m 33 #[.val (.int u0)] [(.int (1 : Int32))]))
            refine own_st (fun _ k => XS.goto X0.here hx rfl (pc0 := 33) (pc' := 37) rfl (hb hby d1_33) (by decide) (by decide) k) ?_
            show own_Go _ _ _ _ (s₁.setTop (mkF m 37 #[.val (.int u0)] [(.int (1 : Int32))]))
            obtain ⟨fs, hr, hrun, hended, hW, hsame⟩ := X0.leave (v := some (.int (1 : Int32))) (fun h => by rw [Bd.returns] at h; cases h)
            refine own_out (retN X0 hx (t := .boolean) Bd.returns (by simp) (hb hby d1_37) hr) ⟨hrun, hended, _, _, rfl, ?_, ⟨_, rfl⟩, hW, hsame.mono (by decide) (by decide)⟩
            show Q1 Z u0 h0 n0 _ s₁.heap _
            have hv : own_fv u0 = (1 : Int32) := by
              unfold own_fv
              rw [if_neg hc1, if_neg hc2, if_neg hc5, if_neg hc6, if_neg hc7]
            exact ⟨by rw [hv], N0, e0⟩
def own_x (u : Int32) : Int32 := (if (255 : Int32) < u then (0 : Int32) else (if u = (127 : Int32) then (0 : Int32) else (if u < (32 : Int32) then (if u = (9 : Int32) then (1 : Int32) else (0 : Int32)) else (1 : Int32))))
theorem own_eq (u : Int32) (h : 0 ≤ u.toInt) : own_fv u = own_x u := by
  unfold own_fv own_x
  repeat' split
  all_goals first | rfl | (exfalso; simp only [Int32.lt_iff_toInt_lt, ← Int32.toInt_inj, Int32.reduceToInt] at *; omega)
theorem own_c (u : Int32) : own_fv (u.toUInt32.toUInt16.toUInt32.toInt32) = own_x (u.toUInt32.toUInt16.toUInt32.toInt32) := own_eq _ (c_i2c u).2.1
theorem own_pd1 : parseMethodDescriptor "(I)Z" = some ⟨[.int], some .boolean⟩ := by decide +kernel
theorem own_pn1 : plainName "com/example/handler/handler/HttpSyntaxIsFieldValueCharPinLaw" = true := by first | (simp [plainName, overriddenIn]; done) | decide +kernel
def Q0 (Z : State) (u0 : Int32) (h0 : Heap) (n0 : Nat) (v : Option Value) (h : Heap) (L : List Loc) : Prop := v = some (.int 1) ∧ Fr n0 L
theorem ef_0 (m : MethodId) (x0 : Int32) : entryFrame m #[(.int x0)] maxLocals = mkF m 0 #[.val (.int x0), .unset, .unset, .unset] [] := by first | (simp [entryFrame, mkF, argsToLocals, Value.category, maxLocals]; done) | rfl
set_option maxRecDepth 65536 in
set_option maxHeartbeats 40000000 in
theorem rm0 (l : Launch) (Z : State) (a0 : Array Value) (hw : ∀ d ∈ tables_1, d.before a0 Z = true) (ws : List Jvm.Cond) (u0 : Int32) (h0 : Heap) (n0 : Nat) (Z0 : n0 ≤ h0.size)  :
    MetFree l x (head1 (Jvm.Cond.code x code maxLocals ret :: ws) room_1) (fun a U => a = #[(.int u0)] ∧ Z.Warmed39 U.vm ∧ U.heap = h0) (fun _ _ _ _ _ => True) (fun _ U o U' => ∃ v L, o = .returned v ∧ Q0 Z u0 h0 n0 v U'.heap L ∧ FrameEnd U o U' L 0 0) := by
  refine MetFree.of_bodySF (plainFor_of_name own_pn1) hisR ?_
  intro p e s m args below meth c s₁ Bd hml0 hP hK
  obtain ⟨rfl, hZ, hh⟩ := hP
  have hx := Bd.exec
  have hby := Bd.bytes
  have hml : c.maxLocals = 4 := hml0
  have hown : s.vm.findClass "com/example/handler/handler/HttpSyntaxIsFieldValueCharPinLaw" = some m.cls := findClass_of_methodNamed Bd.named
  have hnm := (name_of_methodNamed Bd.named Bd.method).1
  have X0 : Stand p l e room_1 s m #[(.int u0)] below meth c s₁ [] 0 0 := Stand.of_body Bd
  have e0 : s₁.heap = h0 := by rw [← hh, Bd.state]; rfl
  have N0 := Fr.nil n0
  refine own_in ?_
  refine own_st (fun _ k => castTop (ef_0 m u0) k) ?_
  have K0 : Keep h0 h0 [] := Keep.refl h0 []
  show own_Go _ _ _ _ (s₁.setTop (mkF m 0 #[.val (.int u0), .unset, .unset, .unset] []))
  refine own_st (fun _ k => XS.iloadN X0.here hx rfl (hb hby at_0) rfl k) ?_
  show own_Go _ _ _ _ (s₁.setTop (mkF m 1 #[.val (.int u0), .unset, .unset, .unset] [(.int u0)]))
  refine own_st (fun _ k => XS.i2c X0.here hx rfl (hb hby at_1) rfl k) ?_
  show own_Go _ _ _ _ (s₁.setTop (mkF m 2 #[.val (.int u0), .unset, .unset, .unset] [(.int (u0.toUInt32.toUInt16.toUInt32.toInt32))]))
  refine own_st (fun _ k => XS.istoreN X0.here hx rfl (hb hby at_2) rfl (l' := #[.val (.int u0), .val (.int (u0.toUInt32.toUInt16.toUInt32.toInt32)), .unset, .unset]) rfl k) ?_
  show own_Go _ _ _ _ (s₁.setTop (mkF m 3 #[.val (.int u0), .val (.int (u0.toUInt32.toUInt16.toUInt32.toInt32)), .unset, .unset] []))
  refine own_st (fun _ k => XS.iloadN X0.here hx rfl (hb hby at_3) rfl k) ?_
  show own_Go _ _ _ _ (s₁.setTop (mkF m 4 #[.val (.int u0), .val (.int (u0.toUInt32.toUInt16.toUInt32.toInt32)), .unset, .unset] [(.int (u0.toUInt32.toUInt16.toUInt32.toInt32))]))
  refine own_st (fun _ k => XS.istoreN X0.here hx rfl (hb hby at_4) rfl (l' := #[.val (.int u0), .val (.int (u0.toUInt32.toUInt16.toUInt32.toInt32)), .val (.int (u0.toUInt32.toUInt16.toUInt32.toInt32)), .unset]) rfl k) ?_
  show own_Go _ _ _ _ (s₁.setTop (mkF m 5 #[.val (.int u0), .val (.int (u0.toUInt32.toUInt16.toUInt32.toInt32)), .val (.int (u0.toUInt32.toUInt16.toUInt32.toInt32)), .unset] []))
  refine own_st (fun _ k => XS.iloadN X0.here hx rfl (hb hby at_5) rfl k) ?_
  show own_Go _ _ _ _ (s₁.setTop (mkF m 6 #[.val (.int u0), .val (.int (u0.toUInt32.toUInt16.toUInt32.toInt32)), .val (.int (u0.toUInt32.toUInt16.toUInt32.toInt32)), .unset] [(.int (u0.toUInt32.toUInt16.toUInt32.toInt32))]))
  refine own_st (fun _ k => XS.sipush X0.here hx rfl (hb hby at_6) k) ?_
  show own_Go _ _ _ _ (s₁.setTop (mkF m 9 #[.val (.int u0), .val (.int (u0.toUInt32.toUInt16.toUInt32.toInt32)), .val (.int (u0.toUInt32.toUInt16.toUInt32.toInt32)), .unset] [(.int (255 : Int32)), (.int (u0.toUInt32.toUInt16.toUInt32.toInt32))]))
  by_cases hc8 : (255 : Int32) < (u0.toUInt32.toUInt16.toUInt32.toInt32)
  · skip
    refine own_st (fun _ k => XS.icmpYes X0.here hx rfl (pc0 := 9) (pc' := 34) rfl (hb hby at_9) rfl (tlt hc8).2.2.1 (by decide) (by decide) k) ?_
    show own_Go _ _ _ _ (s₁.setTop (mkF m 34 #[.val (.int u0), .val (.int (u0.toUInt32.toUInt16.toUInt32.toInt32)), .val (.int (u0.toUInt32.toUInt16.toUInt32.toInt32)), .unset] []))
    refine own_st (fun _ k => XS.iconst X0.here hx rfl (hb hby at_34) k) ?_
    show own_Go _ _ _ _ (s₁.setTop (mkF m 35 #[.val (.int u0), .val (.int (u0.toUInt32.toUInt16.toUInt32.toInt32)), .val (.int (u0.toUInt32.toUInt16.toUInt32.toInt32)), .unset] [(.int (0 : Int32))]))
    refine own_st (fun _ k => XS.istoreN X0.here hx rfl (hb hby at_35) rfl (l' := #[.val (.int u0), .val (.int (u0.toUInt32.toUInt16.toUInt32.toInt32)), .val (.int (u0.toUInt32.toUInt16.toUInt32.toInt32)), .val (.int (0 : Int32))]) rfl k) ?_
    show own_Go _ _ _ _ (s₁.setTop (mkF m 36 #[.val (.int u0), .val (.int (u0.toUInt32.toUInt16.toUInt32.toInt32)), .val (.int (u0.toUInt32.toUInt16.toUInt32.toInt32)), .val (.int (0 : Int32))] []))
    refine own_st (fun _ k => XS.iloadN X0.here hx rfl (hb hby at_36) rfl k) ?_
    show own_Go _ _ _ _ (s₁.setTop (mkF m 37 #[.val (.int u0), .val (.int (u0.toUInt32.toUInt16.toUInt32.toInt32)), .val (.int (u0.toUInt32.toUInt16.toUInt32.toInt32)), .val (.int (0 : Int32))] [(.int (u0.toUInt32.toUInt16.toUInt32.toInt32))]))
    obtain ⟨_, _, ⟨T9, L9, k9, n9⟩, -, X9, ⟨Lc9, hQ9, l9, y9, z9⟩, st9⟩ := Jvm.LawKit.callS X0 hx (y := (⟨"com/example/handler/handler/HttpSyntax", "isFieldValueChar", "(C)Z"⟩ : MethodName)) hown (mvT hZ (hw _ (List.mem_of_getElem? (i := 0) rfl))) (mvT hZ (hw _ (List.mem_of_getElem? (i := 1) rfl))) (mvT hZ (hw _ (List.mem_of_getElem? (i := 2) rfl))) (mvT hZ (hw _ (List.mem_of_getElem? (i := 3) rfl))) (by decide) (backOf (W := 0) (rm1 l Z a0 hw [] (u0.toUInt32.toUInt16.toUInt32.toInt32) h0 n0 Z0 ) hZ (hw _ (List.mem_of_getElem? (i := 3) rfl)) (hw _ (List.mem_of_getElem? (i := 2) rfl)) (by decide) (by decide)) (g := (mkF m 37 #[.val (.int u0), .val (.int (u0.toUInt32.toUInt16.toUInt32.toInt32)), .val (.int (u0.toUInt32.toUInt16.toUInt32.toInt32)), .val (.int (0 : Int32))] [(.int (u0.toUInt32.toUInt16.toUInt32.toInt32))])) rfl (by rw [hml]; rfl) (argsL := [(.int (u0.toUInt32.toUInt16.toUInt32.toInt32))]) (rest := []) (lenOf own_pd0 rfl) rfl (by show 2 * 0 + _ ≤ _; exact Nat.le_of_eq rfl) (hb hby at_37) (fun _ _ => ⟨rfl, e0, (by decide : 0 + 0 ≤ _), (by decide : 0 + 0 ≤ _)⟩)
    dsimp only [Pt.U, Pt.locs, Pt.cells, Pt.slots] at X9 l9 y9 z9 st9 hQ9
    subst l9 y9 z9
    obtain ⟨rfl, Nq9, eq9⟩ := hQ9
    have N9 := Fr.app N0 Nq9
    refine own_st st9 ?_
    show own_Go _ _ _ _ (T9.setTop (mkF m 40 #[.val (.int u0), .val (.int (u0.toUInt32.toUInt16.toUInt32.toInt32)), .val (.int (u0.toUInt32.toUInt16.toUInt32.toInt32)), .val (.int (0 : Int32))] [(.int (own_fv (u0.toUInt32.toUInt16.toUInt32.toInt32)))]))
    refine own_st (fun _ k => XS.iloadN X9.here hx rfl (hb hby at_40) rfl k) ?_
    show own_Go _ _ _ _ (T9.setTop (mkF m 41 #[.val (.int u0), .val (.int (u0.toUInt32.toUInt16.toUInt32.toInt32)), .val (.int (u0.toUInt32.toUInt16.toUInt32.toInt32)), .val (.int (0 : Int32))] [(.int (0 : Int32)), (.int (own_fv (u0.toUInt32.toUInt16.toUInt32.toInt32)))]))
    refine own_st (fun _ k => XS.icmpNo X9.here hx rfl (hb hby at_41) rfl (teq (by rw [own_c]; unfold own_x; rw [if_pos hc8])).2 k) ?_
    show own_Go _ _ _ _ (T9.setTop (mkF m 44 #[.val (.int u0), .val (.int (u0.toUInt32.toUInt16.toUInt32.toInt32)), .val (.int (u0.toUInt32.toUInt16.toUInt32.toInt32)), .val (.int (0 : Int32))] []))
    refine own_st (fun _ k => XS.iconst X9.here hx rfl (hb hby at_44) k) ?_
    show own_Go _ _ _ _ (T9.setTop (mkF m 45 #[.val (.int u0), .val (.int (u0.toUInt32.toUInt16.toUInt32.toInt32)), .val (.int (u0.toUInt32.toUInt16.toUInt32.toInt32)), .val (.int (0 : Int32))] [(.int (1 : Int32))]))
    refine own_st (fun _ k => XS.goto X9.here hx rfl (pc0 := 45) (pc' := 49) rfl (hb hby at_45) (by decide) (by decide) k) ?_
    show own_Go _ _ _ _ (T9.setTop (mkF m 49 #[.val (.int u0), .val (.int (u0.toUInt32.toUInt16.toUInt32.toInt32)), .val (.int (u0.toUInt32.toUInt16.toUInt32.toInt32)), .val (.int (0 : Int32))] [(.int (1 : Int32))]))
    obtain ⟨fs, hr, hrun, hended, hW, hsame⟩ := X9.leave (v := some (.int (1 : Int32))) (fun h => by rw [Bd.returns] at h; cases h)
    refine own_out (retN X9 hx (t := .boolean) Bd.returns (by simp) (hb hby at_49) hr) ⟨hrun, hended, _, _, rfl, ?_, ⟨_, rfl⟩, hW, hsame.mono (by decide) (by decide)⟩
    show Q0 Z u0 h0 n0 _ T9.heap _
    exact ⟨rfl, N9⟩
  · skip
    refine own_st (fun _ k => XS.icmpNo X0.here hx rfl (hb hby at_9) rfl (flt hc8).2.2.1 k) ?_
    show own_Go _ _ _ _ (s₁.setTop (mkF m 12 #[.val (.int u0), .val (.int (u0.toUInt32.toUInt16.toUInt32.toInt32)), .val (.int (u0.toUInt32.toUInt16.toUInt32.toInt32)), .unset] []))
    refine own_st (fun _ k => XS.iloadN X0.here hx rfl (hb hby at_12) rfl k) ?_
    show own_Go _ _ _ _ (s₁.setTop (mkF m 13 #[.val (.int u0), .val (.int (u0.toUInt32.toUInt16.toUInt32.toInt32)), .val (.int (u0.toUInt32.toUInt16.toUInt32.toInt32)), .unset] [(.int (u0.toUInt32.toUInt16.toUInt32.toInt32))]))
    refine own_st (fun _ k => XS.bipush X0.here hx rfl (hb hby at_13) k) ?_
    show own_Go _ _ _ _ (s₁.setTop (mkF m 15 #[.val (.int u0), .val (.int (u0.toUInt32.toUInt16.toUInt32.toInt32)), .val (.int (u0.toUInt32.toUInt16.toUInt32.toInt32)), .unset] [(.int (127 : Int32)), (.int (u0.toUInt32.toUInt16.toUInt32.toInt32))]))
    by_cases hc10 : (u0.toUInt32.toUInt16.toUInt32.toInt32) = (127 : Int32)
    · skip
      refine own_st (fun _ k => XS.icmpYes X0.here hx rfl (pc0 := 15) (pc' := 34) rfl (hb hby at_15) rfl (teq hc10).1 (by decide) (by decide) k) ?_
      show own_Go _ _ _ _ (s₁.setTop (mkF m 34 #[.val (.int u0), .val (.int (u0.toUInt32.toUInt16.toUInt32.toInt32)), .val (.int (u0.toUInt32.toUInt16.toUInt32.toInt32)), .unset] []))
      refine own_st (fun _ k => XS.iconst X0.here hx rfl (hb hby at_34) k) ?_
      show own_Go _ _ _ _ (s₁.setTop (mkF m 35 #[.val (.int u0), .val (.int (u0.toUInt32.toUInt16.toUInt32.toInt32)), .val (.int (u0.toUInt32.toUInt16.toUInt32.toInt32)), .unset] [(.int (0 : Int32))]))
      refine own_st (fun _ k => XS.istoreN X0.here hx rfl (hb hby at_35) rfl (l' := #[.val (.int u0), .val (.int (u0.toUInt32.toUInt16.toUInt32.toInt32)), .val (.int (u0.toUInt32.toUInt16.toUInt32.toInt32)), .val (.int (0 : Int32))]) rfl k) ?_
      show own_Go _ _ _ _ (s₁.setTop (mkF m 36 #[.val (.int u0), .val (.int (u0.toUInt32.toUInt16.toUInt32.toInt32)), .val (.int (u0.toUInt32.toUInt16.toUInt32.toInt32)), .val (.int (0 : Int32))] []))
      refine own_st (fun _ k => XS.iloadN X0.here hx rfl (hb hby at_36) rfl k) ?_
      show own_Go _ _ _ _ (s₁.setTop (mkF m 37 #[.val (.int u0), .val (.int (u0.toUInt32.toUInt16.toUInt32.toInt32)), .val (.int (u0.toUInt32.toUInt16.toUInt32.toInt32)), .val (.int (0 : Int32))] [(.int (u0.toUInt32.toUInt16.toUInt32.toInt32))]))
      obtain ⟨_, _, ⟨T11, L11, k11, n11⟩, -, X11, ⟨Lc11, hQ11, l11, y11, z11⟩, st11⟩ := Jvm.LawKit.callS X0 hx (y := (⟨"com/example/handler/handler/HttpSyntax", "isFieldValueChar", "(C)Z"⟩ : MethodName)) hown (mvT hZ (hw _ (List.mem_of_getElem? (i := 0) rfl))) (mvT hZ (hw _ (List.mem_of_getElem? (i := 1) rfl))) (mvT hZ (hw _ (List.mem_of_getElem? (i := 2) rfl))) (mvT hZ (hw _ (List.mem_of_getElem? (i := 3) rfl))) (by decide) (backOf (W := 0) (rm1 l Z a0 hw [] (u0.toUInt32.toUInt16.toUInt32.toInt32) h0 n0 Z0 ) hZ (hw _ (List.mem_of_getElem? (i := 3) rfl)) (hw _ (List.mem_of_getElem? (i := 2) rfl)) (by decide) (by decide)) (g := (mkF m 37 #[.val (.int u0), .val (.int (u0.toUInt32.toUInt16.toUInt32.toInt32)), .val (.int (u0.toUInt32.toUInt16.toUInt32.toInt32)), .val (.int (0 : Int32))] [(.int (u0.toUInt32.toUInt16.toUInt32.toInt32))])) rfl (by rw [hml]; rfl) (argsL := [(.int (u0.toUInt32.toUInt16.toUInt32.toInt32))]) (rest := []) (lenOf own_pd0 rfl) rfl (by show 2 * 0 + _ ≤ _; exact Nat.le_of_eq rfl) (hb hby at_37) (fun _ _ => ⟨rfl, e0, (by decide : 0 + 0 ≤ _), (by decide : 0 + 0 ≤ _)⟩)
      dsimp only [Pt.U, Pt.locs, Pt.cells, Pt.slots] at X11 l11 y11 z11 st11 hQ11
      subst l11 y11 z11
      obtain ⟨rfl, Nq11, eq11⟩ := hQ11
      have N11 := Fr.app N0 Nq11
      refine own_st st11 ?_
      show own_Go _ _ _ _ (T11.setTop (mkF m 40 #[.val (.int u0), .val (.int (u0.toUInt32.toUInt16.toUInt32.toInt32)), .val (.int (u0.toUInt32.toUInt16.toUInt32.toInt32)), .val (.int (0 : Int32))] [(.int (own_fv (u0.toUInt32.toUInt16.toUInt32.toInt32)))]))
      refine own_st (fun _ k => XS.iloadN X11.here hx rfl (hb hby at_40) rfl k) ?_
      show own_Go _ _ _ _ (T11.setTop (mkF m 41 #[.val (.int u0), .val (.int (u0.toUInt32.toUInt16.toUInt32.toInt32)), .val (.int (u0.toUInt32.toUInt16.toUInt32.toInt32)), .val (.int (0 : Int32))] [(.int (0 : Int32)), (.int (own_fv (u0.toUInt32.toUInt16.toUInt32.toInt32)))]))
      refine own_st (fun _ k => XS.icmpNo X11.here hx rfl (hb hby at_41) rfl (teq (by rw [own_c]; unfold own_x; rw [if_neg hc8, if_pos hc10])).2 k) ?_
      show own_Go _ _ _ _ (T11.setTop (mkF m 44 #[.val (.int u0), .val (.int (u0.toUInt32.toUInt16.toUInt32.toInt32)), .val (.int (u0.toUInt32.toUInt16.toUInt32.toInt32)), .val (.int (0 : Int32))] []))
      refine own_st (fun _ k => XS.iconst X11.here hx rfl (hb hby at_44) k) ?_
      show own_Go _ _ _ _ (T11.setTop (mkF m 45 #[.val (.int u0), .val (.int (u0.toUInt32.toUInt16.toUInt32.toInt32)), .val (.int (u0.toUInt32.toUInt16.toUInt32.toInt32)), .val (.int (0 : Int32))] [(.int (1 : Int32))]))
      refine own_st (fun _ k => XS.goto X11.here hx rfl (pc0 := 45) (pc' := 49) rfl (hb hby at_45) (by decide) (by decide) k) ?_
      show own_Go _ _ _ _ (T11.setTop (mkF m 49 #[.val (.int u0), .val (.int (u0.toUInt32.toUInt16.toUInt32.toInt32)), .val (.int (u0.toUInt32.toUInt16.toUInt32.toInt32)), .val (.int (0 : Int32))] [(.int (1 : Int32))]))
      obtain ⟨fs, hr, hrun, hended, hW, hsame⟩ := X11.leave (v := some (.int (1 : Int32))) (fun h => by rw [Bd.returns] at h; cases h)
      refine own_out (retN X11 hx (t := .boolean) Bd.returns (by simp) (hb hby at_49) hr) ⟨hrun, hended, _, _, rfl, ?_, ⟨_, rfl⟩, hW, hsame.mono (by decide) (by decide)⟩
      show Q0 Z u0 h0 n0 _ T11.heap _
      exact ⟨rfl, N11⟩
    · skip
      refine own_st (fun _ k => XS.icmpNo X0.here hx rfl (hb hby at_15) rfl (feq hc10).1 k) ?_
      show own_Go _ _ _ _ (s₁.setTop (mkF m 18 #[.val (.int u0), .val (.int (u0.toUInt32.toUInt16.toUInt32.toInt32)), .val (.int (u0.toUInt32.toUInt16.toUInt32.toInt32)), .unset] []))
      refine own_st (fun _ k => XS.iloadN X0.here hx rfl (hb hby at_18) rfl k) ?_
      show own_Go _ _ _ _ (s₁.setTop (mkF m 19 #[.val (.int u0), .val (.int (u0.toUInt32.toUInt16.toUInt32.toInt32)), .val (.int (u0.toUInt32.toUInt16.toUInt32.toInt32)), .unset] [(.int (u0.toUInt32.toUInt16.toUInt32.toInt32))]))
      refine own_st (fun _ k => XS.bipush X0.here hx rfl (hb hby at_19) k) ?_
      show own_Go _ _ _ _ (s₁.setTop (mkF m 21 #[.val (.int u0), .val (.int (u0.toUInt32.toUInt16.toUInt32.toInt32)), .val (.int (u0.toUInt32.toUInt16.toUInt32.toInt32)), .unset] [(.int (32 : Int32)), (.int (u0.toUInt32.toUInt16.toUInt32.toInt32))]))
      by_cases hc12 : (u0.toUInt32.toUInt16.toUInt32.toInt32) < (32 : Int32)
      · skip
        refine own_st (fun _ k => XS.icmpNo X0.here hx rfl (hb hby at_21) rfl (tlt hc12).2.1 k) ?_
        show own_Go _ _ _ _ (s₁.setTop (mkF m 24 #[.val (.int u0), .val (.int (u0.toUInt32.toUInt16.toUInt32.toInt32)), .val (.int (u0.toUInt32.toUInt16.toUInt32.toInt32)), .unset] []))
        refine own_st (fun _ k => XS.iloadN X0.here hx rfl (hb hby at_24) rfl k) ?_
        show own_Go _ _ _ _ (s₁.setTop (mkF m 25 #[.val (.int u0), .val (.int (u0.toUInt32.toUInt16.toUInt32.toInt32)), .val (.int (u0.toUInt32.toUInt16.toUInt32.toInt32)), .unset] [(.int (u0.toUInt32.toUInt16.toUInt32.toInt32))]))
        refine own_st (fun _ k => XS.bipush X0.here hx rfl (hb hby at_25) k) ?_
        show own_Go _ _ _ _ (s₁.setTop (mkF m 27 #[.val (.int u0), .val (.int (u0.toUInt32.toUInt16.toUInt32.toInt32)), .val (.int (u0.toUInt32.toUInt16.toUInt32.toInt32)), .unset] [(.int (9 : Int32)), (.int (u0.toUInt32.toUInt16.toUInt32.toInt32))]))
        by_cases hc13 : (u0.toUInt32.toUInt16.toUInt32.toInt32) = (9 : Int32)
        · skip
          refine own_st (fun _ k => XS.icmpNo X0.here hx rfl (hb hby at_27) rfl (teq hc13).2 k) ?_
          show own_Go _ _ _ _ (s₁.setTop (mkF m 30 #[.val (.int u0), .val (.int (u0.toUInt32.toUInt16.toUInt32.toInt32)), .val (.int (u0.toUInt32.toUInt16.toUInt32.toInt32)), .unset] []))
          refine own_st (fun _ k => XS.iconst X0.here hx rfl (hb hby at_30) k) ?_
          show own_Go _ _ _ _ (s₁.setTop (mkF m 31 #[.val (.int u0), .val (.int (u0.toUInt32.toUInt16.toUInt32.toInt32)), .val (.int (u0.toUInt32.toUInt16.toUInt32.toInt32)), .unset] [(.int (1 : Int32))]))
          refine own_st (fun _ k => XS.goto X0.here hx rfl (pc0 := 31) (pc' := 35) rfl (hb hby at_31) (by decide) (by decide) k) ?_
          show own_Go _ _ _ _ (s₁.setTop (mkF m 35 #[.val (.int u0), .val (.int (u0.toUInt32.toUInt16.toUInt32.toInt32)), .val (.int (u0.toUInt32.toUInt16.toUInt32.toInt32)), .unset] [(.int (1 : Int32))]))
          refine own_st (fun _ k => XS.istoreN X0.here hx rfl (hb hby at_35) rfl (l' := #[.val (.int u0), .val (.int (u0.toUInt32.toUInt16.toUInt32.toInt32)), .val (.int (u0.toUInt32.toUInt16.toUInt32.toInt32)), .val (.int (1 : Int32))]) rfl k) ?_
          show own_Go _ _ _ _ (s₁.setTop (mkF m 36 #[.val (.int u0), .val (.int (u0.toUInt32.toUInt16.toUInt32.toInt32)), .val (.int (u0.toUInt32.toUInt16.toUInt32.toInt32)), .val (.int (1 : Int32))] []))
          refine own_st (fun _ k => XS.iloadN X0.here hx rfl (hb hby at_36) rfl k) ?_
          show own_Go _ _ _ _ (s₁.setTop (mkF m 37 #[.val (.int u0), .val (.int (u0.toUInt32.toUInt16.toUInt32.toInt32)), .val (.int (u0.toUInt32.toUInt16.toUInt32.toInt32)), .val (.int (1 : Int32))] [(.int (u0.toUInt32.toUInt16.toUInt32.toInt32))]))
          obtain ⟨_, _, ⟨T14, L14, k14, n14⟩, -, X14, ⟨Lc14, hQ14, l14, y14, z14⟩, st14⟩ := Jvm.LawKit.callS X0 hx (y := (⟨"com/example/handler/handler/HttpSyntax", "isFieldValueChar", "(C)Z"⟩ : MethodName)) hown (mvT hZ (hw _ (List.mem_of_getElem? (i := 0) rfl))) (mvT hZ (hw _ (List.mem_of_getElem? (i := 1) rfl))) (mvT hZ (hw _ (List.mem_of_getElem? (i := 2) rfl))) (mvT hZ (hw _ (List.mem_of_getElem? (i := 3) rfl))) (by decide) (backOf (W := 0) (rm1 l Z a0 hw [] (u0.toUInt32.toUInt16.toUInt32.toInt32) h0 n0 Z0 ) hZ (hw _ (List.mem_of_getElem? (i := 3) rfl)) (hw _ (List.mem_of_getElem? (i := 2) rfl)) (by decide) (by decide)) (g := (mkF m 37 #[.val (.int u0), .val (.int (u0.toUInt32.toUInt16.toUInt32.toInt32)), .val (.int (u0.toUInt32.toUInt16.toUInt32.toInt32)), .val (.int (1 : Int32))] [(.int (u0.toUInt32.toUInt16.toUInt32.toInt32))])) rfl (by rw [hml]; rfl) (argsL := [(.int (u0.toUInt32.toUInt16.toUInt32.toInt32))]) (rest := []) (lenOf own_pd0 rfl) rfl (by show 2 * 0 + _ ≤ _; exact Nat.le_of_eq rfl) (hb hby at_37) (fun _ _ => ⟨rfl, e0, (by decide : 0 + 0 ≤ _), (by decide : 0 + 0 ≤ _)⟩)
          dsimp only [Pt.U, Pt.locs, Pt.cells, Pt.slots] at X14 l14 y14 z14 st14 hQ14
          subst l14 y14 z14
          obtain ⟨rfl, Nq14, eq14⟩ := hQ14
          have N14 := Fr.app N0 Nq14
          refine own_st st14 ?_
          show own_Go _ _ _ _ (T14.setTop (mkF m 40 #[.val (.int u0), .val (.int (u0.toUInt32.toUInt16.toUInt32.toInt32)), .val (.int (u0.toUInt32.toUInt16.toUInt32.toInt32)), .val (.int (1 : Int32))] [(.int (own_fv (u0.toUInt32.toUInt16.toUInt32.toInt32)))]))
          refine own_st (fun _ k => XS.iloadN X14.here hx rfl (hb hby at_40) rfl k) ?_
          show own_Go _ _ _ _ (T14.setTop (mkF m 41 #[.val (.int u0), .val (.int (u0.toUInt32.toUInt16.toUInt32.toInt32)), .val (.int (u0.toUInt32.toUInt16.toUInt32.toInt32)), .val (.int (1 : Int32))] [(.int (1 : Int32)), (.int (own_fv (u0.toUInt32.toUInt16.toUInt32.toInt32)))]))
          refine own_st (fun _ k => XS.icmpNo X14.here hx rfl (hb hby at_41) rfl (teq (by rw [own_c]; unfold own_x; rw [if_neg hc8, if_neg hc10, if_pos hc12, if_pos hc13])).2 k) ?_
          show own_Go _ _ _ _ (T14.setTop (mkF m 44 #[.val (.int u0), .val (.int (u0.toUInt32.toUInt16.toUInt32.toInt32)), .val (.int (u0.toUInt32.toUInt16.toUInt32.toInt32)), .val (.int (1 : Int32))] []))
          refine own_st (fun _ k => XS.iconst X14.here hx rfl (hb hby at_44) k) ?_
          show own_Go _ _ _ _ (T14.setTop (mkF m 45 #[.val (.int u0), .val (.int (u0.toUInt32.toUInt16.toUInt32.toInt32)), .val (.int (u0.toUInt32.toUInt16.toUInt32.toInt32)), .val (.int (1 : Int32))] [(.int (1 : Int32))]))
          refine own_st (fun _ k => XS.goto X14.here hx rfl (pc0 := 45) (pc' := 49) rfl (hb hby at_45) (by decide) (by decide) k) ?_
          show own_Go _ _ _ _ (T14.setTop (mkF m 49 #[.val (.int u0), .val (.int (u0.toUInt32.toUInt16.toUInt32.toInt32)), .val (.int (u0.toUInt32.toUInt16.toUInt32.toInt32)), .val (.int (1 : Int32))] [(.int (1 : Int32))]))
          obtain ⟨fs, hr, hrun, hended, hW, hsame⟩ := X14.leave (v := some (.int (1 : Int32))) (fun h => by rw [Bd.returns] at h; cases h)
          refine own_out (retN X14 hx (t := .boolean) Bd.returns (by simp) (hb hby at_49) hr) ⟨hrun, hended, _, _, rfl, ?_, ⟨_, rfl⟩, hW, hsame.mono (by decide) (by decide)⟩
          show Q0 Z u0 h0 n0 _ T14.heap _
          exact ⟨rfl, N14⟩
        · skip
          refine own_st (fun _ k => XS.icmpYes X0.here hx rfl (pc0 := 27) (pc' := 34) rfl (hb hby at_27) rfl (feq hc13).2 (by decide) (by decide) k) ?_
          show own_Go _ _ _ _ (s₁.setTop (mkF m 34 #[.val (.int u0), .val (.int (u0.toUInt32.toUInt16.toUInt32.toInt32)), .val (.int (u0.toUInt32.toUInt16.toUInt32.toInt32)), .unset] []))
          refine own_st (fun _ k => XS.iconst X0.here hx rfl (hb hby at_34) k) ?_
          show own_Go _ _ _ _ (s₁.setTop (mkF m 35 #[.val (.int u0), .val (.int (u0.toUInt32.toUInt16.toUInt32.toInt32)), .val (.int (u0.toUInt32.toUInt16.toUInt32.toInt32)), .unset] [(.int (0 : Int32))]))
          refine own_st (fun _ k => XS.istoreN X0.here hx rfl (hb hby at_35) rfl (l' := #[.val (.int u0), .val (.int (u0.toUInt32.toUInt16.toUInt32.toInt32)), .val (.int (u0.toUInt32.toUInt16.toUInt32.toInt32)), .val (.int (0 : Int32))]) rfl k) ?_
          show own_Go _ _ _ _ (s₁.setTop (mkF m 36 #[.val (.int u0), .val (.int (u0.toUInt32.toUInt16.toUInt32.toInt32)), .val (.int (u0.toUInt32.toUInt16.toUInt32.toInt32)), .val (.int (0 : Int32))] []))
          refine own_st (fun _ k => XS.iloadN X0.here hx rfl (hb hby at_36) rfl k) ?_
          show own_Go _ _ _ _ (s₁.setTop (mkF m 37 #[.val (.int u0), .val (.int (u0.toUInt32.toUInt16.toUInt32.toInt32)), .val (.int (u0.toUInt32.toUInt16.toUInt32.toInt32)), .val (.int (0 : Int32))] [(.int (u0.toUInt32.toUInt16.toUInt32.toInt32))]))
          obtain ⟨_, _, ⟨T15, L15, k15, n15⟩, -, X15, ⟨Lc15, hQ15, l15, y15, z15⟩, st15⟩ := Jvm.LawKit.callS X0 hx (y := (⟨"com/example/handler/handler/HttpSyntax", "isFieldValueChar", "(C)Z"⟩ : MethodName)) hown (mvT hZ (hw _ (List.mem_of_getElem? (i := 0) rfl))) (mvT hZ (hw _ (List.mem_of_getElem? (i := 1) rfl))) (mvT hZ (hw _ (List.mem_of_getElem? (i := 2) rfl))) (mvT hZ (hw _ (List.mem_of_getElem? (i := 3) rfl))) (by decide) (backOf (W := 0) (rm1 l Z a0 hw [] (u0.toUInt32.toUInt16.toUInt32.toInt32) h0 n0 Z0 ) hZ (hw _ (List.mem_of_getElem? (i := 3) rfl)) (hw _ (List.mem_of_getElem? (i := 2) rfl)) (by decide) (by decide)) (g := (mkF m 37 #[.val (.int u0), .val (.int (u0.toUInt32.toUInt16.toUInt32.toInt32)), .val (.int (u0.toUInt32.toUInt16.toUInt32.toInt32)), .val (.int (0 : Int32))] [(.int (u0.toUInt32.toUInt16.toUInt32.toInt32))])) rfl (by rw [hml]; rfl) (argsL := [(.int (u0.toUInt32.toUInt16.toUInt32.toInt32))]) (rest := []) (lenOf own_pd0 rfl) rfl (by show 2 * 0 + _ ≤ _; exact Nat.le_of_eq rfl) (hb hby at_37) (fun _ _ => ⟨rfl, e0, (by decide : 0 + 0 ≤ _), (by decide : 0 + 0 ≤ _)⟩)
          dsimp only [Pt.U, Pt.locs, Pt.cells, Pt.slots] at X15 l15 y15 z15 st15 hQ15
          subst l15 y15 z15
          obtain ⟨rfl, Nq15, eq15⟩ := hQ15
          have N15 := Fr.app N0 Nq15
          refine own_st st15 ?_
          show own_Go _ _ _ _ (T15.setTop (mkF m 40 #[.val (.int u0), .val (.int (u0.toUInt32.toUInt16.toUInt32.toInt32)), .val (.int (u0.toUInt32.toUInt16.toUInt32.toInt32)), .val (.int (0 : Int32))] [(.int (own_fv (u0.toUInt32.toUInt16.toUInt32.toInt32)))]))
          refine own_st (fun _ k => XS.iloadN X15.here hx rfl (hb hby at_40) rfl k) ?_
          show own_Go _ _ _ _ (T15.setTop (mkF m 41 #[.val (.int u0), .val (.int (u0.toUInt32.toUInt16.toUInt32.toInt32)), .val (.int (u0.toUInt32.toUInt16.toUInt32.toInt32)), .val (.int (0 : Int32))] [(.int (0 : Int32)), (.int (own_fv (u0.toUInt32.toUInt16.toUInt32.toInt32)))]))
          refine own_st (fun _ k => XS.icmpNo X15.here hx rfl (hb hby at_41) rfl (teq (by rw [own_c]; unfold own_x; rw [if_neg hc8, if_neg hc10, if_pos hc12, if_neg hc13])).2 k) ?_
          show own_Go _ _ _ _ (T15.setTop (mkF m 44 #[.val (.int u0), .val (.int (u0.toUInt32.toUInt16.toUInt32.toInt32)), .val (.int (u0.toUInt32.toUInt16.toUInt32.toInt32)), .val (.int (0 : Int32))] []))
          refine own_st (fun _ k => XS.iconst X15.here hx rfl (hb hby at_44) k) ?_
          show own_Go _ _ _ _ (T15.setTop (mkF m 45 #[.val (.int u0), .val (.int (u0.toUInt32.toUInt16.toUInt32.toInt32)), .val (.int (u0.toUInt32.toUInt16.toUInt32.toInt32)), .val (.int (0 : Int32))] [(.int (1 : Int32))]))
          refine own_st (fun _ k => XS.goto X15.here hx rfl (pc0 := 45) (pc' := 49) rfl (hb hby at_45) (by decide) (by decide) k) ?_
          show own_Go _ _ _ _ (T15.setTop (mkF m 49 #[.val (.int u0), .val (.int (u0.toUInt32.toUInt16.toUInt32.toInt32)), .val (.int (u0.toUInt32.toUInt16.toUInt32.toInt32)), .val (.int (0 : Int32))] [(.int (1 : Int32))]))
          obtain ⟨fs, hr, hrun, hended, hW, hsame⟩ := X15.leave (v := some (.int (1 : Int32))) (fun h => by rw [Bd.returns] at h; cases h)
          refine own_out (retN X15 hx (t := .boolean) Bd.returns (by simp) (hb hby at_49) hr) ⟨hrun, hended, _, _, rfl, ?_, ⟨_, rfl⟩, hW, hsame.mono (by decide) (by decide)⟩
          show Q0 Z u0 h0 n0 _ T15.heap _
          exact ⟨rfl, N15⟩
      · skip
        refine own_st (fun _ k => XS.icmpYes X0.here hx rfl (pc0 := 21) (pc' := 30) rfl (hb hby at_21) rfl (flt hc12).2.1 (by decide) (by decide) k) ?_
        show own_Go _ _ _ _ (s₁.setTop (mkF m 30 #[.val (.int u0), .val (.int (u0.toUInt32.toUInt16.toUInt32.toInt32)), .val (.int (u0.toUInt32.toUInt16.toUInt32.toInt32)), .unset] []))
        refine own_st (fun _ k => XS.iconst X0.here hx rfl (hb hby at_30) k) ?_
        show own_Go _ _ _ _ (s₁.setTop (mkF m 31 #[.val (.int u0), .val (.int (u0.toUInt32.toUInt16.toUInt32.toInt32)), .val (.int (u0.toUInt32.toUInt16.toUInt32.toInt32)), .unset] [(.int (1 : Int32))]))
        refine own_st (fun _ k => XS.goto X0.here hx rfl (pc0 := 31) (pc' := 35) rfl (hb hby at_31) (by decide) (by decide) k) ?_
        show own_Go _ _ _ _ (s₁.setTop (mkF m 35 #[.val (.int u0), .val (.int (u0.toUInt32.toUInt16.toUInt32.toInt32)), .val (.int (u0.toUInt32.toUInt16.toUInt32.toInt32)), .unset] [(.int (1 : Int32))]))
        refine own_st (fun _ k => XS.istoreN X0.here hx rfl (hb hby at_35) rfl (l' := #[.val (.int u0), .val (.int (u0.toUInt32.toUInt16.toUInt32.toInt32)), .val (.int (u0.toUInt32.toUInt16.toUInt32.toInt32)), .val (.int (1 : Int32))]) rfl k) ?_
        show own_Go _ _ _ _ (s₁.setTop (mkF m 36 #[.val (.int u0), .val (.int (u0.toUInt32.toUInt16.toUInt32.toInt32)), .val (.int (u0.toUInt32.toUInt16.toUInt32.toInt32)), .val (.int (1 : Int32))] []))
        refine own_st (fun _ k => XS.iloadN X0.here hx rfl (hb hby at_36) rfl k) ?_
        show own_Go _ _ _ _ (s₁.setTop (mkF m 37 #[.val (.int u0), .val (.int (u0.toUInt32.toUInt16.toUInt32.toInt32)), .val (.int (u0.toUInt32.toUInt16.toUInt32.toInt32)), .val (.int (1 : Int32))] [(.int (u0.toUInt32.toUInt16.toUInt32.toInt32))]))
        obtain ⟨_, _, ⟨T16, L16, k16, n16⟩, -, X16, ⟨Lc16, hQ16, l16, y16, z16⟩, st16⟩ := Jvm.LawKit.callS X0 hx (y := (⟨"com/example/handler/handler/HttpSyntax", "isFieldValueChar", "(C)Z"⟩ : MethodName)) hown (mvT hZ (hw _ (List.mem_of_getElem? (i := 0) rfl))) (mvT hZ (hw _ (List.mem_of_getElem? (i := 1) rfl))) (mvT hZ (hw _ (List.mem_of_getElem? (i := 2) rfl))) (mvT hZ (hw _ (List.mem_of_getElem? (i := 3) rfl))) (by decide) (backOf (W := 0) (rm1 l Z a0 hw [] (u0.toUInt32.toUInt16.toUInt32.toInt32) h0 n0 Z0 ) hZ (hw _ (List.mem_of_getElem? (i := 3) rfl)) (hw _ (List.mem_of_getElem? (i := 2) rfl)) (by decide) (by decide)) (g := (mkF m 37 #[.val (.int u0), .val (.int (u0.toUInt32.toUInt16.toUInt32.toInt32)), .val (.int (u0.toUInt32.toUInt16.toUInt32.toInt32)), .val (.int (1 : Int32))] [(.int (u0.toUInt32.toUInt16.toUInt32.toInt32))])) rfl (by rw [hml]; rfl) (argsL := [(.int (u0.toUInt32.toUInt16.toUInt32.toInt32))]) (rest := []) (lenOf own_pd0 rfl) rfl (by show 2 * 0 + _ ≤ _; exact Nat.le_of_eq rfl) (hb hby at_37) (fun _ _ => ⟨rfl, e0, (by decide : 0 + 0 ≤ _), (by decide : 0 + 0 ≤ _)⟩)
        dsimp only [Pt.U, Pt.locs, Pt.cells, Pt.slots] at X16 l16 y16 z16 st16 hQ16
        subst l16 y16 z16
        obtain ⟨rfl, Nq16, eq16⟩ := hQ16
        have N16 := Fr.app N0 Nq16
        refine own_st st16 ?_
        show own_Go _ _ _ _ (T16.setTop (mkF m 40 #[.val (.int u0), .val (.int (u0.toUInt32.toUInt16.toUInt32.toInt32)), .val (.int (u0.toUInt32.toUInt16.toUInt32.toInt32)), .val (.int (1 : Int32))] [(.int (own_fv (u0.toUInt32.toUInt16.toUInt32.toInt32)))]))
        refine own_st (fun _ k => XS.iloadN X16.here hx rfl (hb hby at_40) rfl k) ?_
        show own_Go _ _ _ _ (T16.setTop (mkF m 41 #[.val (.int u0), .val (.int (u0.toUInt32.toUInt16.toUInt32.toInt32)), .val (.int (u0.toUInt32.toUInt16.toUInt32.toInt32)), .val (.int (1 : Int32))] [(.int (1 : Int32)), (.int (own_fv (u0.toUInt32.toUInt16.toUInt32.toInt32)))]))
        refine own_st (fun _ k => XS.icmpNo X16.here hx rfl (hb hby at_41) rfl (teq (by rw [own_c]; unfold own_x; rw [if_neg hc8, if_neg hc10, if_neg hc12])).2 k) ?_
        show own_Go _ _ _ _ (T16.setTop (mkF m 44 #[.val (.int u0), .val (.int (u0.toUInt32.toUInt16.toUInt32.toInt32)), .val (.int (u0.toUInt32.toUInt16.toUInt32.toInt32)), .val (.int (1 : Int32))] []))
        refine own_st (fun _ k => XS.iconst X16.here hx rfl (hb hby at_44) k) ?_
        show own_Go _ _ _ _ (T16.setTop (mkF m 45 #[.val (.int u0), .val (.int (u0.toUInt32.toUInt16.toUInt32.toInt32)), .val (.int (u0.toUInt32.toUInt16.toUInt32.toInt32)), .val (.int (1 : Int32))] [(.int (1 : Int32))]))
        refine own_st (fun _ k => XS.goto X16.here hx rfl (pc0 := 45) (pc' := 49) rfl (hb hby at_45) (by decide) (by decide) k) ?_
        show own_Go _ _ _ _ (T16.setTop (mkF m 49 #[.val (.int u0), .val (.int (u0.toUInt32.toUInt16.toUInt32.toInt32)), .val (.int (u0.toUInt32.toUInt16.toUInt32.toInt32)), .val (.int (1 : Int32))] [(.int (1 : Int32))]))
        obtain ⟨fs, hr, hrun, hended, hW, hsame⟩ := X16.leave (v := some (.int (1 : Int32))) (fun h => by rw [Bd.returns] at h; cases h)
        refine own_out (retN X16 hx (t := .boolean) Bd.returns (by simp) (hb hby at_49) hr) ⟨hrun, hended, _, _, rfl, ?_, ⟨_, rfl⟩, hW, hsame.mono (by decide) (by decide)⟩
        show Q0 Z u0 h0 n0 _ T16.heap _
        exact ⟨rfl, N16⟩
set_option maxRecDepth 65536 in
set_option maxHeartbeats 40000000 in
theorem comes_1 {Post : Tables → Env → Array Value → State → Outcome → State → Prop} (hpost : ∀ tb e args s v u, (limb_1_1.after args s (.returned v) u = true ∧ limb_1_2.after args s (.returned v) u = true ∧ True) → FrameEnd s (.returned v) u (Jvm.fieldLocs frame_1_writes args s ++ Jvm.arrayLocs frame_1_arrays args s ++ Jvm.staticLocs frame_1_statics s) 0 0 → Post tb e args s (.returned v) u) :
    ArmFor flags0 classFile x code maxLocals ret World_1 tables_1 room_1 Calls_1 rest_1 Pre_1 Post := by
  intro l hfl _ _ p e ha hc hk s m args below hf hA hF happ hP
  obtain ⟨hcalls, hrest, hpre⟩ := hP
  obtain ⟨-, -, -, hnamed, -, -, -, hat⟩ := (Spec.applies_iff hf).mp happ
  obtain ⟨hg, hn⟩ := and_e (Cond.before_iff.mp (show (Jvm.Cond.and given_1 narrow_1).before args s = true from hpre))
  obtain ⟨h1, h2⟩ := and_e hg
  have ha0 := h2
  obtain ⟨w0, rfl⟩ : ∃ w0 : Value, args = #[w0] := by
    have hs : args.size = 1 := by simpa [Cond.value, given_1] using h1
    obtain ⟨L⟩ := args
    match L, hs with
    | [w0], _ => exact ⟨w0, rfl⟩
  have hw := fun d (hd : d ∈ tables_1) => atoms_spec (ws := Jvm.Cond.code x code maxLocals ret :: tables_1) hat d (List.mem_cons_of_mem _ hd)
  obtain ⟨i0, ei0⟩ := is_v ha0
  obtain rfl : w0 = (.int i0) := Option.some.inj ei0
  obtain ⟨n, o, h1, h2, h3, _, L, rfl, ⟨rfl, N⟩, hq⟩ := rm0 l s _ hw tables_1 i0 s.heap s.heap.size (Nat.le_refl _)  p e ha hc hk s m _ below hf ((Spec.applies_iff_loose hf).mp happ).1 ⟨rfl, State.Warmed39.refl s, rfl⟩ trivial
  refine ⟨n, _, h1, h2, h3, hpost _ _ _ _ _ _ ⟨Cond.after_iff.mpr rfl, Cond.after_iff.mpr (eq_i res_at (Term.int_eval (1)) rfl), trivial⟩ ⟨hq.1, hq.2.1, (hq.2.2.sift fun y hy => Or.inr (N y hy)).mono (by decide) (by decide)⟩⟩
theorem main_1_1 : Claimed_1_1 := comes_1 fun _ _ _ _ _ _ h hF => ⟨h.1, hF⟩
theorem main_1_2 : Claimed_1_2 := comes_1 fun _ _ _ _ _ _ h hF => ⟨h.2.1, hF⟩
end Jvm.Pilot.@@N@@
namespace Jvm.Pilot.@@N@@
open Jvm Jvm.ClassFile Sem Op Lib Jvm.Free Jvm.Stand Jvm.Pilot.@@N@@.Jvm.D
/-! MADE BY PROGRAM (witnessworld.py) out of the Statement's table words and the real class files: 9 classes; the members and pool entries that the words name. The judged class is class 1, her method 1. -/
namespace start1
open Jvm.ClassFile
def u (s : String) : CpInfo := .utf8 (stringToUtf16 s)
/-- a pool by its gaps: so many unusable entries, then the entry; so many at the end -/
def gap : Nat → List CpInfo → List CpInfo
  | 0, r => r
  | n + 1, r => .unusable :: gap n r
def poolList (es : List (Nat × CpInfo)) (last : Nat) : List CpInfo := es.foldr (fun e r => gap e.1 (e.2 :: r)) (gap last [])
def pool (es : List (Nat × CpInfo)) (last : Nat) : Array CpInfo := ⟨poolList es last⟩
def fileOf (pool : Array CpInfo) (this : Nat) (attrs : Array Attribute := #[]) (ms : Array MethodInfo := #[]) (fl : Nat := 33) (sup : Nat := 0) (ifs : Array Nat := #[]) (fds : Array FieldInfo := #[]) : ClassFile where
  minorVersion := 0
  majorVersion := 65
  constantPool := pool
  accessFlags := fl
  thisClass := this
  superClass := sup
  interfaces := ifs
  fields := fds
  methods := ms
  attributes := attrs
def plain (name : String) (sup : Option ClassId) : Class where
  name := name
  kind := .ordinary
  loader := none
  accessFlags := 33
  super := sup
  interfaces := #[]
  cf := none
  fields := #[]
  methods := #[]
  instanceTypes := #[]
  staticTypes := #[]
  resolved := #[]
  callSites := []
  init := .initialized
  statics := none
  mirror := none

def pool0 : Array CpInfo := pool [(5, u "<init>"), (0, u "()V"), (1, .class_ 10), (1, u "java/lang/Object")] 113

def k0m0 : Method := { name := "<init>", desc := "()V", sig := { parameters := [], returnType := none }, accessFlags := 1, code := none }
/-- java/lang/Object -/
def k0 : Class := { plain "java/lang/Object" none with
  accessFlags := 33
  interfaces := #[]
  cf := some (fileOf pool0 8 #[] #[{ accessFlags := 1, nameIndex := 5, descriptorIndex := 6, attributes := #[] }] 33 0 #[] #[])
  fields := #[]
  methods := #[k0m0]
  instanceTypes := #[]
  staticTypes := #[]
  resolved := Array.replicate 124 none
  statics := none }

def pool1 : Array CpInfo := pool [(2, .class_ 4), (1, u "java/lang/Object"), (0, u "<init>"), (0, u "()V"), (0, .methodref 8 9), (0, .class_ 10), (0, .nameAndType 11 12), (0, u "com/example/handler/handler/HttpSyntax"), (0, u "isFieldValueChar"), (0, u "(C)Z"), (0, .class_ 14), (0, u "com/example/handler/handler/HttpSyntaxIsFieldValueCharPinLaw"), (2, u "law"), (0, u "(I)Z")] 3

def k1m0 : Method := { name := "<init>", desc := "()V", sig := { parameters := [], returnType := none }, accessFlags := 2, code := none }
def k1c1 : Code := { maxStack := 2, maxLocals := 4, code := code, exceptionTable := #[], attributes := #[] }
def k1m1 : Method := { name := "law", desc := "(I)Z", sig := { parameters := [.int], returnType := some .boolean }, accessFlags := 9, code := some k1c1 }
/-- com/example/handler/handler/HttpSyntaxIsFieldValueCharPinLaw -/
def k1 : Class := { plain "com/example/handler/handler/HttpSyntaxIsFieldValueCharPinLaw" (some 0) with
  accessFlags := 49
  interfaces := #[]
  cf := some (fileOf pool1 13 #[] #[{ accessFlags := 2, nameIndex := 5, descriptorIndex := 6, attributes := #[] }, { accessFlags := 9, nameIndex := 17, descriptorIndex := 18, attributes := #[] }] 49 2 #[] #[])
  fields := #[]
  methods := #[k1m0, k1m1]
  instanceTypes := #[]
  staticTypes := #[]
  resolved := Array.replicate 22 none
  statics := none }

def pool2 : Array CpInfo := pool [(2, .class_ 4), (1, u "java/lang/Object"), (0, u "<init>"), (0, u "()V"), (7, .class_ 16), (1, u "com/example/handler/handler/HttpSyntax"), (13, u "(C)Z"), (8, u "isFieldValueChar"), (41, u "TOKEN_CHARS"), (0, u "[Z"), (13, u "TOKEN_SYMBOLS"), (0, u "Ljava/lang/String;")] 16

def k2m0 : Method := { name := "<init>", desc := "()V", sig := { parameters := [], returnType := none }, accessFlags := 2, code := none }
def k2c1 : Code := { maxStack := 2, maxLocals := 1, code := prog_39_method_7_code, exceptionTable := #[], attributes := #[] }
def k2m1 : Method := { name := "isFieldValueChar", desc := "(C)Z", sig := { parameters := [.char], returnType := some .boolean }, accessFlags := 8, code := some k2c1 }
/-- com/example/handler/handler/HttpSyntax -/
def k2 : Class := { plain "com/example/handler/handler/HttpSyntax" (some 0) with
  accessFlags := 48
  interfaces := #[]
  cf := some (fileOf pool2 14 #[] #[{ accessFlags := 2, nameIndex := 5, descriptorIndex := 6, attributes := #[] }, { accessFlags := 8, nameIndex := 39, descriptorIndex := 30, attributes := #[] }] 48 2 #[] #[{ accessFlags := 26, nameIndex := 96, descriptorIndex := 97, attributes := #[] }, { accessFlags := 26, nameIndex := 81, descriptorIndex := 82, attributes := #[] }])
  fields := #[{ name := "TOKEN_SYMBOLS", type := (.object "java/lang/String"), accessFlags := 26, slot := 0, constantValue := 0 }, { name := "TOKEN_CHARS", type := (.array .boolean), accessFlags := 26, slot := 1, constantValue := 0 }]
  methods := #[k2m0, k2m1]
  instanceTypes := #[]
  staticTypes := #[(.object "java/lang/String"), (.array .boolean)]
  resolved := Array.replicate 114 none
  statics := none }

def pool3 : Array CpInfo := pool [(1, u "java/lang/Cloneable"), (0, .class_ 1), (0, u "java/lang/Object"), (0, .class_ 3)] 3

/-- java/lang/Cloneable -/
def k3 : Class := { plain "java/lang/Cloneable" (some 0) with
  accessFlags := 1537
  interfaces := #[]
  cf := some (fileOf pool3 2 #[] #[] 1537 4 #[] #[])
  fields := #[]
  methods := #[]
  instanceTypes := #[]
  staticTypes := #[]
  resolved := Array.replicate 8 none
  statics := none }

def pool4 : Array CpInfo := pool [(1, u "java/io/Serializable"), (0, .class_ 1), (0, u "java/lang/Object"), (0, .class_ 3)] 3

/-- java/io/Serializable -/
def k4 : Class := { plain "java/io/Serializable" (some 0) with
  accessFlags := 1537
  interfaces := #[]
  cf := some (fileOf pool4 2 #[] #[] 1537 4 #[] #[])
  fields := #[]
  methods := #[]
  instanceTypes := #[]
  staticTypes := #[]
  resolved := Array.replicate 8 none
  statics := none }

/-- the primitive byte -/
def k5 : Class := { plain "byte" none with kind := .primitive 'B', accessFlags := 0x411 }
/-- [B -/
def k6 : Class := { plain "[B" (some 0) with kind := .array 5 .byte, interfaces := #[3, 4], accessFlags := 1041 }

/-- the primitive int -/
def k7 : Class := { plain "int" none with kind := .primitive 'I', accessFlags := 0x411 }
/-- [I -/
def k8 : Class := { plain "[I" (some 0) with kind := .array 7 .int, interfaces := #[3, 4], accessFlags := 1041 }

def heap : Heap := #[]
def classes : Array Class := #[k0, k1, k2, k3, k4, k5, k6, k7, k8]
def interned : List (Array UInt16 × Addr) := []
def slotsUsed : Nat := 0
def theMethod : MethodId := ⟨1, 1⟩
def args0 : Array Value := #[.int 5]
def aboutOver (below : List Frame) : State where
  vm := { classes := classes, interned := interned.toArray }
  heap := heap
  slotsUsed := slotsUsed
  threads := #[{ frames := .invoking theMethod args0 :: below }]
def below0 : List Frame := [.native { method := ⟨0, 0⟩, args := #[] }]
def about1 : State := aboutOver below0
def p0 : Program := .bare "" "" ""
def e0 : Env := launch0.env 0 0 0
theorem w_frames : about1.frames = Frame.invoking theMethod args0 :: below0 := rfl
set_option maxRecDepth 65536 in
theorem w_args : argsFit about1.vm theMethod args0 = true := by decide +kernel
set_option maxRecDepth 65536 in
theorem w_heap : heapFits about1 = true := by decide +kernel
set_option maxRecDepth 65536 in
theorem w_runnable : about1.curStatus? = some .runnable := by decide +kernel
set_option maxRecDepth 65536 in
theorem w_alone : about1.alone = true := by decide +kernel
set_option maxRecDepth 65536 in
theorem w_named : about1.methodNamed? x = some theMethod := by decide +kernel
set_option maxRecDepth 65536 in
theorem w_hears : about1.hears theMethod below0 = true := by decide +kernel
set_option maxRecDepth 65536 in
theorem w_ripe : about1.ripe theMethod args0 below0 = true := by decide +kernel
theorem w_running : about1.status = .running := rfl
set_option maxRecDepth 65536 in
theorem w_room : about1.hasRoom e0.platform room_1 = true :=
  launch0.hasRoom_least _ room_1 (by decide +kernel) (by decide +kernel) (by decide +kernel) (by decide +kernel) (by decide +kernel) (by decide +kernel)
theorem allAtoms_all (ts : List Jvm.Cond) (a : Array Jvm.Value) (st : Jvm.State) : (allAtoms ts).before a st = ts.all (fun c => c.before a st) := by
  induction ts with
  | nil => rfl
  | cons c t ih =>
    show (Jvm.Cond.and c (allAtoms t)).before a st = _
    rw [Jvm.Cond.before_and, ih, List.all_cons]
def words1 : List Jvm.Cond := Jvm.Cond.code x code maxLocals ret :: tables_1
/-- a 'code' word, met by the world's own term for the bytes: nothing is compared byte by byte -/
theorem code_word {y : MethodName} {bytes : ByteArray} {mx : Nat} {rt : Option FieldType} {a : Array Value} {s : State} {m : MethodId} {meth : Method} {c : Code} (h1 : s.methodNamed? y = some m) (h2 : s.vm.method? m = some meth) (h3 : meth.code = some c) (h4 : c.code = bytes)
    (h5 : (c.maxLocals == mx && c.exceptionTable.isEmpty && decide (c.maxStack ≤ mostOperands) && decide (meth.sig.returnType = rt) && !meth.locks && decide (parseMethodDescriptor y.desc = some meth.sig)) = true) : (Jvm.Cond.code y bytes mx rt).before a s = true := by
  simp only [Bool.and_eq_true, beq_iff_eq, Bool.not_eq_true', decide_eq_true_eq] at h5
  obtain ⟨⟨⟨⟨⟨g1, g2⟩, g3⟩, g4⟩, g5⟩, g6⟩ := h5
  simp [Cond.before, Cond.holds, Cond.value, h1, h2, h3, h4, g1, g2, g3, g4, g5, g6]
def isCode : Jvm.Cond → Bool
  | .code _ _ _ _ => true
  | _ => false
theorem all_split {L : List Jvm.Cond} {P : Jvm.Cond → Bool} (h1 : L.all (fun c => isCode c || P c) = true) (h2 : ∀ c ∈ L.filter isCode, P c = true) : L.all P = true := by
  refine List.all_eq_true.mpr fun c hc => ?_
  have h := List.all_eq_true.mp h1 c hc
  rcases Bool.eq_false_or_eq_true (isCode c) with hi | hi
  · exact h2 c (List.mem_filter.mpr ⟨hc, hi⟩)
  · simpa [hi] using h
set_option maxRecDepth 65536 in
theorem w_c0 : (Jvm.Cond.code x code maxLocals ret).before args0 about1 = true := code_word (m := ⟨1, 1⟩) (meth := k1m1) (c := k1c1) (by decide +kernel) rfl rfl rfl (by decide +kernel)
set_option maxRecDepth 65536 in
theorem w_c1 : (Jvm.Cond.code ({ cls := "com/example/handler/handler/HttpSyntax", name := "isFieldValueChar", desc := "(C)Z" } : Jvm.MethodName) prog_39_method_7_code (1 : Nat) (Option.some Jvm.ClassFile.FieldType.boolean)).before args0 about1 = true := code_word (m := ⟨2, 1⟩) (meth := k2m1) (c := k2c1) (by decide +kernel) rfl rfl rfl (by decide +kernel)
def codes1 : List Jvm.Cond := [Jvm.Cond.code x code maxLocals ret, Jvm.Cond.code ({ cls := "com/example/handler/handler/HttpSyntax", name := "isFieldValueChar", desc := "(C)Z" } : Jvm.MethodName) prog_39_method_7_code (1 : Nat) (Option.some Jvm.ClassFile.FieldType.boolean)]
set_option maxRecDepth 65536 in
theorem codes_eq : words1.filter isCode = codes1 := rfl
theorem w_codes : ∀ c ∈ words1.filter isCode, c.before args0 about1 = true := by
  rw [codes_eq]
  intro c hc
  simp only [codes1, List.mem_cons, List.not_mem_nil, or_false] at hc
  rcases hc with rfl | rfl
  · exact w_c0
  · exact w_c1
set_option maxRecDepth 65536 in
theorem w_t1 : words1.all (fun c => isCode c || c.before args0 about1) = true := by decide +kernel
theorem w_tables : (allAtoms (Jvm.Cond.code x code maxLocals ret :: tables_1)).before args0 about1 = true := by
  rw [allAtoms_all]
  show words1.all (fun c => c.before args0 about1) = true
  refine all_split ?_ w_codes
  rw [w_t1]
set_option maxRecDepth 65536 in
theorem w_case : (Jvm.Cond.and given_1 narrow_1).before args0 about1 = true := by decide +kernel
theorem w_applies : (headSpec (Jvm.Cond.code x code maxLocals ret :: tables_1) room_1).applies x e0.platform about1 = true :=
  (Spec.applies_iff w_frames).mpr ⟨w_running, w_runnable, w_alone, w_named, w_hears, w_ripe, w_room, w_tables⟩
theorem atStart : AtStart classFile x code maxLocals ret World_1 tables_1 room_1 Calls_1 rest_1 Pre_1 launch0 p0 e0 about1 theMethod args0 below0 :=
  ⟨lists_1, trivial, launch0.admits_env _ _ _, launch0.least_env, fairChoices_fair.cas, fairChoices_fair.clock, w_frames, w_args, w_heap, w_applies, trivial, trivial, w_case⟩
end start1
theorem witness_1 : WitnessClaimed_1 := ⟨start1.p0, start1.e0, start1.about1, start1.theMethod, start1.args0, start1.below0, start1.atStart⟩
end Jvm.Pilot.@@N@@
