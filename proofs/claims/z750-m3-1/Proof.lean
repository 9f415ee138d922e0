import JvmDerived
import JvmDerived.Pilot.@@N@@Statement
import JvmDerived.Pilot.@@N@@Code
set_option linter.unusedVariables false
set_option linter.unusedSimpArgs false
namespace Jvm.Pilot.@@N@@
open Jvm Jvm.ClassFile Sem Op Lib Jvm.Free Jvm.Stand Jvm.LawKit Jvm.RoadKit Bundle Jvm.Pilot.@@N@@.Jvm.D
def own_Go (tb : Tables) (e : Env) (below : List Frame) (P : State → Outcome → Prop) (A : State) : Prop := ∃ s₂ o, Steps tb e below A s₂ ∧ P s₂ o
theorem own_in {tb : Tables} {e : Env} {below : List Frame} {P : State → Outcome → Prop} {A : State} (h : own_Go tb e below P A) : ∃ s₂ o, Steps tb e below A s₂ ∧ P s₂ o := h
theorem own_st {tb : Tables} {e : Env} {below : List Frame} {P : State → Outcome → Prop} {A B : State} (h : ∀ t, Steps tb e below B t → Steps tb e below A t) (k : own_Go tb e below P B) : own_Go tb e below P A := by
  obtain ⟨s₂, o, h1, h2⟩ := k
  exact ⟨s₂, o, h _ h1, h2⟩
theorem own_tr {tb : Tables} {e : Env} {below : List Frame} {P : State → Outcome → Prop} {A B : State} (h : Steps tb e below A B) (k : own_Go tb e below P B) : own_Go tb e below P A := by
  obtain ⟨s₂, o, h1, h2⟩ := k
  exact ⟨s₂, o, h.trans h1, h2⟩
theorem own_out {tb : Tables} {e : Env} {below : List Frame} {P : State → Outcome → Prop} {A B : State} {o : Outcome} (h : Steps tb e below A B) (k : P B o) : own_Go tb e below P A := ⟨B, o, h, k⟩
theorem own_join {ι : Type} {tb : Tables} {e : Env} {below : List Frame} {P : State → Outcome → Prop} {A : State} (B : ι → State) (K : ι → Prop) (hJ : ∀ b, K b → own_Go tb e below P (B b)) (h : (∀ b, K b → own_Go tb e below P (B b)) → own_Go tb e below P A) : own_Go tb e below P A := h hJ
section Own
variable {p : Program} {l : Launch} {e : Env} {R : Room} {s : State} {m : MethodId} {args : Array Value} {below : List Frame} {meth : Method} {c : Code} {T : State} {locs : List Loc} {cells slots : Nat}
theorem own_retI (X : Stand p l e R s m args below meth c T locs cells slots) (hx : p.tables.exec = Jvm.exec) {pc : Nat} {Ls : Array Slot} {z : Int32} {rest : List Value} (hret : meth.sig.returnType = some .int) (hd : decode c.code pc = .ok (.ireturn, 1)) {fs : List Frame}
    (hl : ∀ (f : JFrame) (acts : List Action), f.method = m → f.locked = none → f.entered = [] → (doReturn e (T.setTop f) acts (some (.int z))).1 = T.setFrames fs) : Steps p.tables e below (T.setTop (mkF m pc Ls (.int z :: rest))) (T.setFrames fs) := by
  have hm' : T.vm.method? m = some meth := X.method'
  have hn : narrow .int (.int z) = .int z := rfl
  show Steps p.tables e below (T.setTop { method := m, pc := pc, locals := Ls, stack := _ :: rest, locked := none }) _
  jvm_step X.here [X.here.top, hx, hd, hm', hret, hn]
  first | (intro acts; rw [hl _ acts rfl rfl rfl]) | rw [hl _ _ rfl rfl rfl]
  exact Steps.refl _
end Own
def own_il (u0 : Int32) : Int32 := (if u0 < (97 : Int32) then (if u0 < (65 : Int32) then (0 : Int32) else (if (90 : Int32) < u0 then (0 : Int32) else (1 : Int32))) else (if (122 : Int32) < u0 then (if u0 < (65 : Int32) then (0 : Int32) else (if (90 : Int32) < u0 then (0 : Int32) else (1 : Int32))) else (1 : Int32)))
theorem d1_0 : decode prog_39_method_10_code 0 = .ok (.iload_n 0, 1) := by decide +kernel
theorem d1_1 : decode prog_39_method_10_code 1 = .ok (.bipush 97, 2) := by decide +kernel
theorem d1_3 : decode prog_39_method_10_code 3 = .ok (.if_icmp .lt 9, 3) := by decide +kernel
theorem d1_6 : decode prog_39_method_10_code 6 = .ok (.iload_n 0, 1) := by decide +kernel
theorem d1_7 : decode prog_39_method_10_code 7 = .ok (.bipush 122, 2) := by decide +kernel
theorem d1_9 : decode prog_39_method_10_code 9 = .ok (.if_icmp .le 15, 3) := by decide +kernel
theorem d1_12 : decode prog_39_method_10_code 12 = .ok (.iload_n 0, 1) := by decide +kernel
theorem d1_13 : decode prog_39_method_10_code 13 = .ok (.bipush 65, 2) := by decide +kernel
theorem d1_15 : decode prog_39_method_10_code 15 = .ok (.if_icmp .lt 13, 3) := by decide +kernel
theorem d1_18 : decode prog_39_method_10_code 18 = .ok (.iload_n 0, 1) := by decide +kernel
theorem d1_19 : decode prog_39_method_10_code 19 = .ok (.bipush 90, 2) := by decide +kernel
theorem d1_21 : decode prog_39_method_10_code 21 = .ok (.if_icmp .gt 7, 3) := by decide +kernel
theorem d1_24 : decode prog_39_method_10_code 24 = .ok (.iconst 1, 1) := by decide +kernel
theorem d1_25 : decode prog_39_method_10_code 25 = .ok (.goto 4, 3) := by decide +kernel
theorem d1_28 : decode prog_39_method_10_code 28 = .ok (.iconst 0, 1) := by decide +kernel
theorem d1_29 : decode prog_39_method_10_code 29 = .ok (.ireturn, 1) := by decide +kernel
theorem own_pd0 : parseMethodDescriptor "(C)Z" = some ⟨[.char], some .boolean⟩ := by decide +kernel
theorem own_pn0 : plainName "com/example/handler/handler/HttpSyntax" = true := by first | (simp [plainName, overriddenIn]; done) | decide +kernel
def Q1 (Z : State) (u0 : Int32) (h0 : Heap) (n0 : Nat) (v : Option Value) (h : Heap) (L : List Loc) : Prop := v = some (.int (own_il u0)) ∧ Fr n0 L ∧ h = h0
theorem ef_1 (m : MethodId) (x0 : Int32) : entryFrame m #[(.int x0)] 1 = mkF m 0 #[.val (.int x0)] [] := by first | (simp [entryFrame, mkF, argsToLocals, Value.category]; done) | rfl
set_option maxRecDepth 65536 in
set_option maxHeartbeats 40000000 in
theorem rm1 (l : Launch) (Z : State) (a0 : Array Value) (hw : ∀ d ∈ tables_1, d.before a0 Z = true) (ws : List Jvm.Cond) (u0 : Int32) (h0 : Heap) (n0 : Nat) (Z0 : n0 ≤ h0.size)  :
    MetFree l (⟨"com/example/handler/handler/HttpSyntax", "isLetter", "(C)Z"⟩ : MethodName) (head1 (Jvm.Cond.code (⟨"com/example/handler/handler/HttpSyntax", "isLetter", "(C)Z"⟩ : MethodName) prog_39_method_10_code 1 (some .boolean) :: ws) ({ frames := 0, cells := 0, slots := 0, locals := 0 } : Room)) (fun a U => a = #[(.int u0)] ∧ Z.Warmed39 U.vm ∧ U.heap = h0) (fun _ _ _ _ _ => True) (fun _ U o U' => ∃ v L, o = .returned v ∧ Q1 Z u0 h0 n0 v U'.heap L ∧ FrameEnd U o U' L ({ frames := 0, cells := 0, slots := 0, locals := 0 } : Room).cells ({ frames := 0, cells := 0, slots := 0, locals := 0 } : Room).slots) := by
  refine MetFree.of_bodySF (plainFor_of_name own_pn0) hisR ?_
  intro p e s m args below meth c s₁ Bd hml0 hP hK
  obtain ⟨rfl, hZ, hh⟩ := hP
  have hx := Bd.exec
  have hby := Bd.bytes
  have hml : c.maxLocals = 1 := hml0
  have hown : s.vm.findClass "com/example/handler/handler/HttpSyntax" = some m.cls := findClass_of_methodNamed Bd.named
  have hnm := (name_of_methodNamed Bd.named Bd.method).1
  have X0 : Stand p l e ({ frames := 0, cells := 0, slots := 0, locals := 0 } : Room) s m #[(.int u0)] below meth c s₁ [] 0 0 := Stand.of_body Bd
  have e0 : s₁.heap = h0 := by rw [← hh, Bd.state]; rfl
  have N0 := Fr.nil n0
  refine own_in ?_
  refine own_st (fun _ k => castTop (ef_1 m u0) k) ?_
  have K0 : Keep h0 h0 [] := Keep.refl h0 []
  show own_Go _ _ _ _ (s₁.setTop (mkF m 0 #[.val (.int u0)] []))
  refine own_st (fun _ k => XS.iloadN X0.here hx rfl (hb hby d1_0) rfl k) ?_
  show own_Go _ _ _ _ (s₁.setTop (mkF m 1 #[.val (.int u0)] [(.int u0)]))
  refine own_st (fun _ k => XS.bipush X0.here hx rfl (hb hby d1_1) k) ?_
  show own_Go _ _ _ _ (s₁.setTop (mkF m 3 #[.val (.int u0)] [(.int (97 : Int32)), (.int u0)]))
  by_cases hc1 : u0 < (97 : Int32)
  · skip
    refine own_st (fun _ k => XS.icmpYes X0.here hx rfl (pc0 := 3) (pc' := 12) rfl (hb hby d1_3) rfl (tlt hc1).1 (by decide) (by decide) k) ?_
    show own_Go _ _ _ _ (s₁.setTop (mkF m 12 #[.val (.int u0)] []))
    refine own_st (fun _ k => XS.iloadN X0.here hx rfl (hb hby d1_12) rfl k) ?_
    show own_Go _ _ _ _ (s₁.setTop (mkF m 13 #[.val (.int u0)] [(.int u0)]))
    refine own_st (fun _ k => XS.bipush X0.here hx rfl (hb hby d1_13) k) ?_
    show own_Go _ _ _ _ (s₁.setTop (mkF m 15 #[.val (.int u0)] [(.int (65 : Int32)), (.int u0)]))
    by_cases hc2 : u0 < (65 : Int32)
    · skip
      refine own_st (fun _ k => XS.icmpYes X0.here hx rfl (pc0 := 15) (pc' := 28) rfl (hb hby d1_15) rfl (tlt hc2).1 (by decide) (by decide) k) ?_
      show own_Go _ _ _ _ (s₁.setTop (mkF m 28 #[.val (.int u0)] []))
      refine own_st (fun _ k => XS.iconst X0.here hx rfl (hb hby d1_28) k) ?_
      show own_Go _ _ _ _ (s₁.setTop (mkF m 29 #[.val (.int u0)] [(.int (0 : Int32))]))
      obtain ⟨fs, hr, hrun, hended, hW, hsame⟩ := X0.leave (v := some (.int (0 : Int32))) (fun h => by rw [Bd.returns] at h; cases h)
      refine own_out (retN X0 hx (t := .boolean) Bd.returns (by simp) (hb hby d1_29) hr) ⟨hrun, hended, _, _, rfl, ?_, ⟨_, rfl⟩, hW, hsame.mono (by decide) (by decide)⟩
      show Q1 Z u0 h0 n0 _ s₁.heap _
      have hv : own_il u0 = (0 : Int32) := by
        unfold own_il
        rw [if_pos hc1, if_pos hc2]
      exact ⟨by rw [hv], N0, e0⟩
    · skip
      refine own_st (fun _ k => XS.icmpNo X0.here hx rfl (hb hby d1_15) rfl (flt hc2).1 k) ?_
      show own_Go _ _ _ _ (s₁.setTop (mkF m 18 #[.val (.int u0)] []))
      refine own_st (fun _ k => XS.iloadN X0.here hx rfl (hb hby d1_18) rfl k) ?_
      show own_Go _ _ _ _ (s₁.setTop (mkF m 19 #[.val (.int u0)] [(.int u0)]))
      refine own_st (fun _ k => XS.bipush X0.here hx rfl (hb hby d1_19) k) ?_
      show own_Go _ _ _ _ (s₁.setTop (mkF m 21 #[.val (.int u0)] [(.int (90 : Int32)), (.int u0)]))
      by_cases hc3 : (90 : Int32) < u0
      · skip
        refine own_st (fun _ k => XS.icmpYes X0.here hx rfl (pc0 := 21) (pc' := 28) rfl (hb hby d1_21) rfl (tlt hc3).2.2.1 (by decide) (by decide) k) ?_
        show own_Go _ _ _ _ (s₁.setTop (mkF m 28 #[.val (.int u0)] []))
        refine own_st (fun _ k => XS.iconst X0.here hx rfl (hb hby d1_28) k) ?_
        show own_Go _ _ _ _ (s₁.setTop (mkF m 29 #[.val (.int u0)] [(.int (0 : Int32))]))
        obtain ⟨fs, hr, hrun, hended, hW, hsame⟩ := X0.leave (v := some (.int (0 : Int32))) (fun h => by rw [Bd.returns] at h; cases h)
        refine own_out (retN X0 hx (t := .boolean) Bd.returns (by simp) (hb hby d1_29) hr) ⟨hrun, hended, _, _, rfl, ?_, ⟨_, rfl⟩, hW, hsame.mono (by decide) (by decide)⟩
        show Q1 Z u0 h0 n0 _ s₁.heap _
        have hv : own_il u0 = (0 : Int32) := by
          unfold own_il
          rw [if_pos hc1, if_neg hc2, if_pos hc3]
        exact ⟨by rw [hv], N0, e0⟩
      · skip
        refine own_st (fun _ k => XS.icmpNo X0.here hx rfl (hb hby d1_21) rfl (flt hc3).2.2.1 k) ?_
        show own_Go _ _ _ _ (s₁.setTop (mkF m 24 #[.val (.int u0)] []))
        refine own_st (fun _ k => XS.iconst X0.here hx rfl (hb hby d1_24) k) ?_
        show own_Go _ _ _ _ (s₁.setTop (mkF m 25 #[.val (.int u0)] [(.int (1 : Int32))]))
        refine own_st (fun _ k => XS.goto X0.here hx rfl (pc0 := 25) (pc' := 29) rfl (hb hby d1_25) (by decide) (by decide) k) ?_
        show own_Go _ _ _ _ (s₁.setTop (mkF m 29 #[.val (.int u0)] [(.int (1 : Int32))]))
        obtain ⟨fs, hr, hrun, hended, hW, hsame⟩ := X0.leave (v := some (.int (1 : Int32))) (fun h => by rw [Bd.returns] at h; cases h)
        refine own_out (retN X0 hx (t := .boolean) Bd.returns (by simp) (hb hby d1_29) hr) ⟨hrun, hended, _, _, rfl, ?_, ⟨_, rfl⟩, hW, hsame.mono (by decide) (by decide)⟩
        show Q1 Z u0 h0 n0 _ s₁.heap _
        have hv : own_il u0 = (1 : Int32) := by
          unfold own_il
          rw [if_pos hc1, if_neg hc2, if_neg hc3]
        exact ⟨by rw [hv], N0, e0⟩
  · skip
    refine own_st (fun _ k => XS.icmpNo X0.here hx rfl (hb hby d1_3) rfl (flt hc1).1 k) ?_
    show own_Go _ _ _ _ (s₁.setTop (mkF m 6 #[.val (.int u0)] []))
    refine own_st (fun _ k => XS.iloadN X0.here hx rfl (hb hby d1_6) rfl k) ?_
    show own_Go _ _ _ _ (s₁.setTop (mkF m 7 #[.val (.int u0)] [(.int u0)]))
    refine own_st (fun _ k => XS.bipush X0.here hx rfl (hb hby d1_7) k) ?_
    show own_Go _ _ _ _ (s₁.setTop (mkF m 9 #[.val (.int u0)] [(.int (122 : Int32)), (.int u0)]))
    by_cases hc4 : (122 : Int32) < u0
    · skip
      refine own_st (fun _ k => XS.icmpNo X0.here hx rfl (hb hby d1_9) rfl (tlt hc4).2.2.2 k) ?_
      show own_Go _ _ _ _ (s₁.setTop (mkF m 12 #[.val (.int u0)] []))
      refine own_st (fun _ k => XS.iloadN X0.here hx rfl (hb hby d1_12) rfl k) ?_
      show own_Go _ _ _ _ (s₁.setTop (mkF m 13 #[.val (.int u0)] [(.int u0)]))
      refine own_st (fun _ k => XS.bipush X0.here hx rfl (hb hby d1_13) k) ?_
      show own_Go _ _ _ _ (s₁.setTop (mkF m 15 #[.val (.int u0)] [(.int (65 : Int32)), (.int u0)]))
      by_cases hc5 : u0 < (65 : Int32)
      · skip
        refine own_st (fun _ k => XS.icmpYes X0.here hx rfl (pc0 := 15) (pc' := 28) rfl (hb hby d1_15) rfl (tlt hc5).1 (by decide) (by decide) k) ?_
        show own_Go _ _ _ _ (s₁.setTop (mkF m 28 #[.val (.int u0)] []))
        refine own_st (fun _ k => XS.iconst X0.here hx rfl (hb hby d1_28) k) ?_
        show own_Go _ _ _ _ (s₁.setTop (mkF m 29 #[.val (.int u0)] [(.int (0 : Int32))]))
        obtain ⟨fs, hr, hrun, hended, hW, hsame⟩ := X0.leave (v := some (.int (0 : Int32))) (fun h => by rw [Bd.returns] at h; cases h)
        refine own_out (retN X0 hx (t := .boolean) Bd.returns (by simp) (hb hby d1_29) hr) ⟨hrun, hended, _, _, rfl, ?_, ⟨_, rfl⟩, hW, hsame.mono (by decide) (by decide)⟩
        show Q1 Z u0 h0 n0 _ s₁.heap _
        have hv : own_il u0 = (0 : Int32) := by
          unfold own_il
          rw [if_neg hc1, if_pos hc4, if_pos hc5]
        exact ⟨by rw [hv], N0, e0⟩
      · skip
        refine own_st (fun _ k => XS.icmpNo X0.here hx rfl (hb hby d1_15) rfl (flt hc5).1 k) ?_
        show own_Go _ _ _ _ (s₁.setTop (mkF m 18 #[.val (.int u0)] []))
        refine own_st (fun _ k => XS.iloadN X0.here hx rfl (hb hby d1_18) rfl k) ?_
        show own_Go _ _ _ _ (s₁.setTop (mkF m 19 #[.val (.int u0)] [(.int u0)]))
        refine own_st (fun _ k => XS.bipush X0.here hx rfl (hb hby d1_19) k) ?_
        show own_Go _ _ _ _ (s₁.setTop (mkF m 21 #[.val (.int u0)] [(.int (90 : Int32)), (.int u0)]))
        by_cases hc6 : (90 : Int32) < u0
        · skip
          refine own_st (fun _ k => XS.icmpYes X0.here hx rfl (pc0 := 21) (pc' := 28) rfl (hb hby d1_21) rfl (tlt hc6).2.2.1 (by decide) (by decide) k) ?_
          show own_Go _ _ _ _ (s₁.setTop (mkF m 28 #[.val (.int u0)] []))
          refine own_st (fun _ k => XS.iconst X0.here hx rfl (hb hby d1_28) k) ?_
          show own_Go _ _ _ _ (s₁.setTop (mkF m 29 #[.val (.int u0)] [(.int (0 : Int32))]))
          obtain ⟨fs, hr, hrun, hended, hW, hsame⟩ := X0.leave (v := some (.int (0 : Int32))) (fun h => by rw [Bd.returns] at h; cases h)
          refine own_out (retN X0 hx (t := .boolean) Bd.returns (by simp) (hb hby d1_29) hr) ⟨hrun, hended, _, _, rfl, ?_, ⟨_, rfl⟩, hW, hsame.mono (by decide) (by decide)⟩
          show Q1 Z u0 h0 n0 _ s₁.heap _
          have hv : own_il u0 = (0 : Int32) := by
            unfold own_il
            rw [if_neg hc1, if_pos hc4, if_neg hc5, if_pos hc6]
          exact ⟨by rw [hv], N0, e0⟩
        · skip
          refine own_st (fun _ k => XS.icmpNo X0.here hx rfl (hb hby d1_21) rfl (flt hc6).2.2.1 k) ?_
          show own_Go _ _ _ _ (s₁.setTop (mkF m 24 #[.val (.int u0)] []))
          refine own_st (fun _ k => XS.iconst X0.here hx rfl (hb hby d1_24) k) ?_
          show own_Go _ _ _ _ (s₁.setTop (mkF m 25 #[.val (.int u0)] [(.int (1 : Int32))]))
          refine own_st (fun _ k => XS.goto X0.here hx rfl (pc0 := 25) (pc' := 29) rfl (hb hby d1_25) (by decide) (by decide) k) ?_
          show own_Go _ _ _ _ (s₁.setTop (mkF m 29 #[.val (.int u0)] [(.int (1 : Int32))]))
          obtain ⟨fs, hr, hrun, hended, hW, hsame⟩ := X0.leave (v := some (.int (1 : Int32))) (fun h => by rw [Bd.returns] at h; cases h)
          refine own_out (retN X0 hx (t := .boolean) Bd.returns (by simp) (hb hby d1_29) hr) ⟨hrun, hended, _, _, rfl, ?_, ⟨_, rfl⟩, hW, hsame.mono (by decide) (by decide)⟩
          show Q1 Z u0 h0 n0 _ s₁.heap _
          have hv : own_il u0 = (1 : Int32) := by
            unfold own_il
            rw [if_neg hc1, if_pos hc4, if_neg hc5, if_neg hc6]
          exact ⟨by rw [hv], N0, e0⟩
    · skip
      refine own_st (fun _ k => XS.icmpYes X0.here hx rfl (pc0 := 9) (pc' := 24) rfl (hb hby d1_9) rfl (flt hc4).2.2.2 (by decide) (by decide) k) ?_
      show own_Go _ _ _ _ (s₁.setTop (mkF m 24 #[.val (.int u0)] []))
      refine own_st (fun _ k => XS.iconst X0.here hx rfl (hb hby d1_24) k) ?_
      show own_Go _ _ _ _ (s₁.setTop (mkF m 25 #[.val (.int u0)] [(.int (1 : Int32))]))
      refine own_st (fun _ k => XS.goto X0.here hx rfl (pc0 := 25) (pc' := 29) rfl (hb hby d1_25) (by decide) (by decide) k) ?_
      show own_Go _ _ _ _ (s₁.setTop (mkF m 29 #[.val (.int u0)] [(.int (1 : Int32))]))
      obtain ⟨fs, hr, hrun, hended, hW, hsame⟩ := X0.leave (v := some (.int (1 : Int32))) (fun h => by rw [Bd.returns] at h; cases h)
      refine own_out (retN X0 hx (t := .boolean) Bd.returns (by simp) (hb hby d1_29) hr) ⟨hrun, hended, _, _, rfl, ?_, ⟨_, rfl⟩, hW, hsame.mono (by decide) (by decide)⟩
      show Q1 Z u0 h0 n0 _ s₁.heap _
      have hv : own_il u0 = (1 : Int32) := by
        unfold own_il
        rw [if_neg hc1, if_neg hc4]
      exact ⟨by rw [hv], N0, e0⟩
def own_fx (u : Int32) : Int32 := (if u < (97 : Int32) then (0 : Int32) else (if (122 : Int32) < u then (0 : Int32) else (1 : Int32)))
theorem own_tab : ∀ n, n < 128 → own_il (Int32.ofNat n) = own_fx (Int32.ofNat n ||| (32 : Int32)) := by decide +kernel
theorem own_ti (u : Int32) : u.toInt = if u.toBitVec.toNat < 2147483648 then (u.toBitVec.toNat : Int) else (u.toBitVec.toNat : Int) - 4294967296 := by
  show u.toBitVec.toInt = _
  rw [BitVec.toInt_eq_toNat_cond]
  split <;> split <;> omega
theorem own_eq (u : Int32) : own_il u = own_fx (u ||| (32 : Int32)) := by
  by_cases hs : u.toBitVec.toNat < 128
  · have e : Int32.ofNat u.toBitVec.toNat = u := by
      apply Int32.toBitVec_inj.mp
      simp [Int32.toBitVec_ofNat']
    have t := own_tab _ hs
    rw [e] at t; exact t
  · have hu := own_ti u
    have ho := own_ti (u ||| (32 : Int32))
    have hn : (u ||| (32 : Int32)).toBitVec.toNat = u.toBitVec.toNat ||| 32 := by
      rw [Int32.toBitVec_or, BitVec.toNat_or]; rfl
    have hge : u.toBitVec.toNat ≤ u.toBitVec.toNat ||| 32 := Nat.left_le_or
    have hlt := (u ||| (32 : Int32)).toBitVec.isLt
    rw [hn] at ho hlt
    have hul := u.toBitVec.isLt
    have hout : ¬ (97 ≤ (u ||| (32 : Int32)).toInt ∧ (u ||| (32 : Int32)).toInt < 123) := by
      rw [ho]; split <;> omega
    have hout2 : ¬ (0 ≤ u.toInt ∧ u.toInt < 128) := by
      rw [hu]; split <;> omega
    have e1 : own_il u = 0 := by
      unfold own_il
      repeat' split
      all_goals first | rfl | (exfalso; simp only [Int32.lt_iff_toInt_lt, Int32.reduceToInt] at *; omega)
    have e2 : own_fx (u ||| (32 : Int32)) = 0 := by
      unfold own_fx
      repeat' split
      all_goals first | rfl | (exfalso; simp only [Int32.lt_iff_toInt_lt, Int32.reduceToInt] at *; omega)
    rw [e1, e2]
theorem own_m8 (u : Int32) : ((u &&& (2147483647 : Int32)) - ((u &&& (2147483647 : Int32)) / (8 : Int32)) * (8 : Int32)) = (0 : Int32) ∨ ((u &&& (2147483647 : Int32)) - ((u &&& (2147483647 : Int32)) / (8 : Int32)) * (8 : Int32)) = (1 : Int32) ∨ ((u &&& (2147483647 : Int32)) - ((u &&& (2147483647 : Int32)) / (8 : Int32)) * (8 : Int32)) = (2 : Int32) ∨ ((u &&& (2147483647 : Int32)) - ((u &&& (2147483647 : Int32)) / (8 : Int32)) * (8 : Int32)) = (3 : Int32) ∨ ((u &&& (2147483647 : Int32)) - ((u &&& (2147483647 : Int32)) / (8 : Int32)) * (8 : Int32)) = (4 : Int32) ∨ ((u &&& (2147483647 : Int32)) - ((u &&& (2147483647 : Int32)) / (8 : Int32)) * (8 : Int32)) = (5 : Int32) ∨ ((u &&& (2147483647 : Int32)) - ((u &&& (2147483647 : Int32)) / (8 : Int32)) * (8 : Int32)) = (6 : Int32) ∨ ((u &&& (2147483647 : Int32)) - ((u &&& (2147483647 : Int32)) / (8 : Int32)) * (8 : Int32)) = (7 : Int32) := by
  have m := c_mask u 2147483647 31 (by decide) (by decide)
  generalize (u &&& (2147483647 : Int32)) = v at *
  have r := rng32 v
  have d := (c_idiv v 8 8 rfl (by decide)).1 (by omega)
  have h2 := c_imul (v / 8) 8
  have r2 := rng32 ((v / 8) * 8)
  have h3 := c_isub v ((v / 8) * 8)
  have r3 := rng32 (v - (v / 8) * 8)
  simp only [Int32.reduceToInt] at h2
  simp only [← Int32.toInt_inj, Int32.reduceToInt]
  omega
theorem own_pd1 : parseMethodDescriptor "(II)Z" = some ⟨[.int, .int], some .boolean⟩ := by decide +kernel
theorem own_pn1 : plainName "com/example/handler/handler/HttpSyntaxIsLetterPinLaw" = true := by first | (simp [plainName, overriddenIn]; done) | decide +kernel
def Q0 (Z : State) (u0 : Int32) (u1 : Int32) (h0 : Heap) (n0 : Nat) (v : Option Value) (h : Heap) (L : List Loc) : Prop := v = some (.int 1) ∧ Fr n0 L
theorem ef_0 (m : MethodId) (x0 : Int32) (x1 : Int32) : entryFrame m #[(.int x0), (.int x1)] maxLocals = mkF m 0 #[.val (.int x0), .val (.int x1), .unset, .unset, .unset, .unset, .unset, .unset, .unset, .unset] [] := by first | (simp [entryFrame, mkF, argsToLocals, Value.category, maxLocals]; done) | rfl
set_option maxRecDepth 65536 in
set_option maxHeartbeats 40000000 in
theorem rm0 (l : Launch) (Z : State) (a0 : Array Value) (hw : ∀ d ∈ tables_1, d.before a0 Z = true) (ws : List Jvm.Cond) (u0 : Int32) (u1 : Int32) (h0 : Heap) (n0 : Nat) (Z0 : n0 ≤ h0.size)  :
    MetFree l x (head1 (Jvm.Cond.code x code maxLocals ret :: ws) room_1) (fun a U => a = #[(.int u0), (.int u1)] ∧ Z.Warmed39 U.vm ∧ U.heap = h0) (fun _ _ _ _ _ => True) (fun _ U o U' => ∃ v L, o = .returned v ∧ Q0 Z u0 u1 h0 n0 v U'.heap L ∧ FrameEnd U o U' L 16 128) := by
  refine MetFree.of_bodySF (plainFor_of_name own_pn1) hisR ?_
  intro p e s m args below meth c s₁ Bd hml0 hP hK
  obtain ⟨rfl, hZ, hh⟩ := hP
  have hx := Bd.exec
  have hby := Bd.bytes
  have hml : c.maxLocals = 10 := hml0
  have hown : s.vm.findClass "com/example/handler/handler/HttpSyntaxIsLetterPinLaw" = some m.cls := findClass_of_methodNamed Bd.named
  have hnm := (name_of_methodNamed Bd.named Bd.method).1
  have X0 : Stand p l e room_1 s m #[(.int u0), (.int u1)] below meth c s₁ [] 0 0 := Stand.of_body Bd
  have e0 : s₁.heap = h0 := by rw [← hh, Bd.state]; rfl
  have N0 := Fr.nil n0
  refine own_in ?_
  refine own_st (fun _ k => castTop (ef_0 m u0 u1) k) ?_
  have K0 : Keep h0 h0 [] := Keep.refl h0 []
  show own_Go _ _ _ _ (s₁.setTop (mkF m 0 #[.val (.int u0), .val (.int u1), .unset, .unset, .unset, .unset, .unset, .unset, .unset, .unset] []))
  refine own_st (fun _ k => XS.iloadN X0.here hx rfl (hb hby at_0) rfl k) ?_
  show own_Go _ _ _ _ (s₁.setTop (mkF m 1 #[.val (.int u0), .val (.int u1), .unset, .unset, .unset, .unset, .unset, .unset, .unset, .unset] [(.int u0)]))
  refine own_st (fun _ k => XS.i2c X0.here hx rfl (hb hby at_1) rfl k) ?_
  show own_Go _ _ _ _ (s₁.setTop (mkF m 2 #[.val (.int u0), .val (.int u1), .unset, .unset, .unset, .unset, .unset, .unset, .unset, .unset] [(.int (u0.toUInt32.toUInt16.toUInt32.toInt32))]))
  refine own_st (fun _ k => XS.istoreN X0.here hx rfl (hb hby at_2) rfl (l' := #[.val (.int u0), .val (.int u1), .val (.int (u0.toUInt32.toUInt16.toUInt32.toInt32)), .unset, .unset, .unset, .unset, .unset, .unset, .unset]) rfl k) ?_
  show own_Go _ _ _ _ (s₁.setTop (mkF m 3 #[.val (.int u0), .val (.int u1), .val (.int (u0.toUInt32.toUInt16.toUInt32.toInt32)), .unset, .unset, .unset, .unset, .unset, .unset, .unset] []))
  refine own_st (fun _ k => XS.iloadN X0.here hx rfl (hb hby at_3) rfl k) ?_
  show own_Go _ _ _ _ (s₁.setTop (mkF m 4 #[.val (.int u0), .val (.int u1), .val (.int (u0.toUInt32.toUInt16.toUInt32.toInt32)), .unset, .unset, .unset, .unset, .unset, .unset, .unset] [(.int (u0.toUInt32.toUInt16.toUInt32.toInt32))]))
  refine own_st (fun _ k => XS.bipush X0.here hx rfl (hb hby at_4) k) ?_
  show own_Go _ _ _ _ (s₁.setTop (mkF m 6 #[.val (.int u0), .val (.int u1), .val (.int (u0.toUInt32.toUInt16.toUInt32.toInt32)), .unset, .unset, .unset, .unset, .unset, .unset, .unset] [(.int (32 : Int32)), (.int (u0.toUInt32.toUInt16.toUInt32.toInt32))]))
  refine own_st (fun _ k => XS.ior X0.here hx rfl (hb hby at_6) rfl k) ?_
  show own_Go _ _ _ _ (s₁.setTop (mkF m 7 #[.val (.int u0), .val (.int u1), .val (.int (u0.toUInt32.toUInt16.toUInt32.toInt32)), .unset, .unset, .unset, .unset, .unset, .unset, .unset] [(.int ((u0.toUInt32.toUInt16.toUInt32.toInt32) ||| (32 : Int32)))]))
  refine own_st (fun _ k => XS.istoreN X0.here hx rfl (hb hby at_7) rfl (l' := #[.val (.int u0), .val (.int u1), .val (.int (u0.toUInt32.toUInt16.toUInt32.toInt32)), .val (.int ((u0.toUInt32.toUInt16.toUInt32.toInt32) ||| (32 : Int32))), .unset, .unset, .unset, .unset, .unset, .unset]) rfl k) ?_
  show own_Go _ _ _ _ (s₁.setTop (mkF m 8 #[.val (.int u0), .val (.int u1), .val (.int (u0.toUInt32.toUInt16.toUInt32.toInt32)), .val (.int ((u0.toUInt32.toUInt16.toUInt32.toInt32) ||| (32 : Int32))), .unset, .unset, .unset, .unset, .unset, .unset] []))
  refine own_join (fun b : Int32 => s₁.setTop (mkF m 25 #[.val (.int u0), .val (.int u1), .val (.int (u0.toUInt32.toUInt16.toUInt32.toInt32)), .val (.int ((u0.toUInt32.toUInt16.toUInt32.toInt32) ||| (32 : Int32))), .unset, .unset, .unset, .unset, .unset, .unset] [(.int b)])) (fun b => b = own_fx ((u0.toUInt32.toUInt16.toUInt32.toInt32) ||| (32 : Int32))) ?_ ?_
  · intro b hj7
    show own_Go _ _ _ _ (s₁.setTop (mkF m 25 #[.val (.int u0), .val (.int u1), .val (.int (u0.toUInt32.toUInt16.toUInt32.toInt32)), .val (.int ((u0.toUInt32.toUInt16.toUInt32.toInt32) ||| (32 : Int32))), .unset, .unset, .unset, .unset, .unset, .unset] [(.int b)]))
    refine own_st (fun _ k => XS.istore X0.here hx rfl (hb hby at_25) rfl (l' := #[.val (.int u0), .val (.int u1), .val (.int (u0.toUInt32.toUInt16.toUInt32.toInt32)), .val (.int ((u0.toUInt32.toUInt16.toUInt32.toInt32) ||| (32 : Int32))), .val (.int b), .unset, .unset, .unset, .unset, .unset]) rfl k) ?_
    show own_Go _ _ _ _ (s₁.setTop (mkF m 27 #[.val (.int u0), .val (.int u1), .val (.int (u0.toUInt32.toUInt16.toUInt32.toInt32)), .val (.int ((u0.toUInt32.toUInt16.toUInt32.toInt32) ||| (32 : Int32))), .val (.int b), .unset, .unset, .unset, .unset, .unset] []))
    refine own_st (fun _ k => XS.iloadN X0.here hx rfl (hb hby at_27) rfl k) ?_
    show own_Go _ _ _ _ (s₁.setTop (mkF m 28 #[.val (.int u0), .val (.int u1), .val (.int (u0.toUInt32.toUInt16.toUInt32.toInt32)), .val (.int ((u0.toUInt32.toUInt16.toUInt32.toInt32) ||| (32 : Int32))), .val (.int b), .unset, .unset, .unset, .unset, .unset] [(.int (u0.toUInt32.toUInt16.toUInt32.toInt32))]))
    obtain ⟨_, _, ⟨T8, L8, k8, n8⟩, -, X8, ⟨Lc8, hQ8, l8, y8, z8⟩, st8⟩ := Jvm.LawKit.callS X0 hx (y := (⟨"com/example/handler/handler/HttpSyntax", "isLetter", "(C)Z"⟩ : MethodName)) hown (mvT hZ (hw _ (List.mem_of_getElem? (i := 0) rfl))) (mvT hZ (hw _ (List.mem_of_getElem? (i := 1) rfl))) (mvT hZ (hw _ (List.mem_of_getElem? (i := 2) rfl))) (mvT hZ (hw _ (List.mem_of_getElem? (i := 3) rfl))) (by decide) (backOf (W := 0) (rm1 l Z a0 hw [] (u0.toUInt32.toUInt16.toUInt32.toInt32) h0 n0 Z0 ) hZ (hw _ (List.mem_of_getElem? (i := 3) rfl)) (hw _ (List.mem_of_getElem? (i := 2) rfl)) (by decide) (by decide)) (g := (mkF m 28 #[.val (.int u0), .val (.int u1), .val (.int (u0.toUInt32.toUInt16.toUInt32.toInt32)), .val (.int ((u0.toUInt32.toUInt16.toUInt32.toInt32) ||| (32 : Int32))), .val (.int b), .unset, .unset, .unset, .unset, .unset] [(.int (u0.toUInt32.toUInt16.toUInt32.toInt32))])) rfl (by rw [hml]; rfl) (argsL := [(.int (u0.toUInt32.toUInt16.toUInt32.toInt32))]) (rest := []) (lenOf own_pd0 rfl) rfl (by show 2 * 0 + _ ≤ _; exact Nat.le_of_eq rfl) (hb hby at_28) (fun _ _ => ⟨rfl, e0, (by decide : 0 + 0 ≤ _), (by decide : 0 + 0 ≤ _)⟩)
    dsimp only [Pt.U, Pt.locs, Pt.cells, Pt.slots] at X8 l8 y8 z8 st8 hQ8
    subst l8 y8 z8
    obtain ⟨rfl, Nq8, eq8⟩ := hQ8
    have N8 := Fr.app N0 Nq8
    refine own_st st8 ?_
    show own_Go _ _ _ _ (T8.setTop (mkF m 31 #[.val (.int u0), .val (.int u1), .val (.int (u0.toUInt32.toUInt16.toUInt32.toInt32)), .val (.int ((u0.toUInt32.toUInt16.toUInt32.toInt32) ||| (32 : Int32))), .val (.int b), .unset, .unset, .unset, .unset, .unset] [(.int (own_il (u0.toUInt32.toUInt16.toUInt32.toInt32)))]))
    refine own_st (fun _ k => XS.iload X8.here hx rfl (hb hby at_31) rfl k) ?_
    show own_Go _ _ _ _ (T8.setTop (mkF m 33 #[.val (.int u0), .val (.int u1), .val (.int (u0.toUInt32.toUInt16.toUInt32.toInt32)), .val (.int ((u0.toUInt32.toUInt16.toUInt32.toInt32) ||| (32 : Int32))), .val (.int b), .unset, .unset, .unset, .unset, .unset] [(.int b), (.int (own_il (u0.toUInt32.toUInt16.toUInt32.toInt32)))]))
    refine own_st (fun _ k => XS.icmpNo X8.here hx rfl (hb hby at_33) rfl (teq (by rw [hj7]; exact own_eq _)).2 k) ?_
    show own_Go _ _ _ _ (T8.setTop (mkF m 36 #[.val (.int u0), .val (.int u1), .val (.int (u0.toUInt32.toUInt16.toUInt32.toInt32)), .val (.int ((u0.toUInt32.toUInt16.toUInt32.toInt32) ||| (32 : Int32))), .val (.int b), .unset, .unset, .unset, .unset, .unset] []))
    refine own_st (fun _ k => XS.iconst X8.here hx rfl (hb hby at_36) k) ?_
    show own_Go _ _ _ _ (T8.setTop (mkF m 37 #[.val (.int u0), .val (.int u1), .val (.int (u0.toUInt32.toUInt16.toUInt32.toInt32)), .val (.int ((u0.toUInt32.toUInt16.toUInt32.toInt32) ||| (32 : Int32))), .val (.int b), .unset, .unset, .unset, .unset, .unset] [(.int (1 : Int32))]))
    refine own_st (fun _ k => XS.goto X8.here hx rfl (pc0 := 37) (pc' := 41) rfl (hb hby at_37) (by decide) (by decide) k) ?_
    show own_Go _ _ _ _ (T8.setTop (mkF m 41 #[.val (.int u0), .val (.int u1), .val (.int (u0.toUInt32.toUInt16.toUInt32.toInt32)), .val (.int ((u0.toUInt32.toUInt16.toUInt32.toInt32) ||| (32 : Int32))), .val (.int b), .unset, .unset, .unset, .unset, .unset] [(.int (1 : Int32))]))
    refine own_st (fun _ k => XS.istore X8.here hx rfl (hb hby at_41) rfl (l' := #[.val (.int u0), .val (.int u1), .val (.int (u0.toUInt32.toUInt16.toUInt32.toInt32)), .val (.int ((u0.toUInt32.toUInt16.toUInt32.toInt32) ||| (32 : Int32))), .val (.int b), .val (.int (1 : Int32)), .unset, .unset, .unset, .unset]) rfl k) ?_
    show own_Go _ _ _ _ (T8.setTop (mkF m 43 #[.val (.int u0), .val (.int u1), .val (.int (u0.toUInt32.toUInt16.toUInt32.toInt32)), .val (.int ((u0.toUInt32.toUInt16.toUInt32.toInt32) ||| (32 : Int32))), .val (.int b), .val (.int (1 : Int32)), .unset, .unset, .unset, .unset] []))
    refine own_st (fun _ k => XS.bipush X8.here hx rfl (hb hby at_43) k) ?_
    show own_Go _ _ _ _ (T8.setTop (mkF m 45 #[.val (.int u0), .val (.int u1), .val (.int (u0.toUInt32.toUInt16.toUInt32.toInt32)), .val (.int ((u0.toUInt32.toUInt16.toUInt32.toInt32) ||| (32 : Int32))), .val (.int b), .val (.int (1 : Int32)), .unset, .unset, .unset, .unset] [(.int (8 : Int32))]))
    obtain ⟨T9, h9, k9, X9, e9, E9, A9, st9⟩ := newP X8 hx hZ (hw _ (List.mem_of_getElem? (i := 4) rfl)) eq8 (g := (mkF m 45 #[.val (.int u0), .val (.int u1), .val (.int (u0.toUInt32.toUInt16.toUInt32.toInt32)), .val (.int ((u0.toUInt32.toUInt16.toUInt32.toInt32) ||| (32 : Int32))), .val (.int b), .val (.int (1 : Int32)), .unset, .unset, .unset, .unset] [(.int (8 : Int32))])) rfl (hb hby at_45) rfl (by decide : ¬ ((8 : Int32) < (0 : Int32))) (cap := 8) (by decide : ((8 : Int32)).toNatClampNeg ≤ 8) (by decide) (by decide) (by decide)
    obtain ⟨b9, g9⟩ : ∃ z, z = h0.size := ⟨_, rfl⟩
    rw [← g9] at A9 st9
    refine own_st st9 ?_
    have Z9 : n0 ≤ h9.size := Nat.le_trans Z0 E9.1
    have gnb9 : n0 ≤ b9 := Nat.le_trans Z0 (Nat.le_of_eq g9.symm)
    have gkb9 : h0.size ≤ b9 := Nat.le_trans K0.1 (Nat.le_of_eq g9.symm)
    have K9 : Keep h0 h9 [] := K0.ext E9
    have V9 : Arv Z h9 b9 k9 .char (8 : Int32) [(.int (0 : Int32)), (.int (0 : Int32)), (.int (0 : Int32)), (.int (0 : Int32)), (.int (0 : Int32)), (.int (0 : Int32)), (.int (0 : Int32)), (.int (0 : Int32))] (.int (0 : Int32)) := (Arv.new A9 (by decide : ¬ ((8 : Int32) < (0 : Int32)))).pad (pad_rep [] (.int (0 : Int32)) 8)
    show own_Go _ _ _ _ (T9.setTop (mkF m 47 #[.val (.int u0), .val (.int u1), .val (.int (u0.toUInt32.toUInt16.toUInt32.toInt32)), .val (.int ((u0.toUInt32.toUInt16.toUInt32.toInt32) ||| (32 : Int32))), .val (.int b), .val (.int (1 : Int32)), .unset, .unset, .unset, .unset] [(.ref b9)]))
    refine own_st (fun _ k => XS.dup X9.here hx rfl (hb hby at_47) rfl rfl k) ?_
    show own_Go _ _ _ _ (T9.setTop (mkF m 48 #[.val (.int u0), .val (.int u1), .val (.int (u0.toUInt32.toUInt16.toUInt32.toInt32)), .val (.int ((u0.toUInt32.toUInt16.toUInt32.toInt32) ||| (32 : Int32))), .val (.int b), .val (.int (1 : Int32)), .unset, .unset, .unset, .unset] [(.ref b9), (.ref b9)]))
    refine own_st (fun _ k => XS.iconst X9.here hx rfl (hb hby at_48) k) ?_
    show own_Go _ _ _ _ (T9.setTop (mkF m 49 #[.val (.int u0), .val (.int u1), .val (.int (u0.toUInt32.toUInt16.toUInt32.toInt32)), .val (.int ((u0.toUInt32.toUInt16.toUInt32.toInt32) ||| (32 : Int32))), .val (.int b), .val (.int (1 : Int32)), .unset, .unset, .unset, .unset] [(.int (0 : Int32)), (.ref b9), (.ref b9)]))
    refine own_st (fun _ k => XS.bipush X9.here hx rfl (hb hby at_49) k) ?_
    show own_Go _ _ _ _ (T9.setTop (mkF m 51 #[.val (.int u0), .val (.int u1), .val (.int (u0.toUInt32.toUInt16.toUInt32.toInt32)), .val (.int ((u0.toUInt32.toUInt16.toUInt32.toInt32) ||| (32 : Int32))), .val (.int b), .val (.int (1 : Int32)), .unset, .unset, .unset, .unset] [(.int (64 : Int32)), (.int (0 : Int32)), (.ref b9), (.ref b9)]))
    obtain ⟨cl10, Ar10, Kd10, Sz10, Nn10, Hs10, Gs10⟩ := id V9
    obtain ⟨T10, h10, X10, e10, W10, st10⟩ := stC X9 hx hZ e9 Ar10 (j := (0 : Int32)) (inb_of Sz10 ⟨(by decide : ¬ ((0 : Int32) < (0 : Int32))), (by decide : (0 : Int32) < (8 : Int32))⟩) (g := (mkF m 51 #[.val (.int u0), .val (.int u1), .val (.int (u0.toUInt32.toUInt16.toUInt32.toInt32)), .val (.int ((u0.toUInt32.toUInt16.toUInt32.toInt32) ||| (32 : Int32))), .val (.int b), .val (.int (1 : Int32)), .unset, .unset, .unset, .unset] [(.int (64 : Int32)), (.int (0 : Int32)), (.ref b9), (.ref b9)])) rfl rfl (hb hby at_51)
    refine own_st st10 ?_
    have V10 := Arv.set Ar10 Kd10 Sz10 Nn10 Hs10 Gs10 (fits_nar_char _) W10 0 rfl (Nat.le_of_ble_eq_true rfl)
    have V10' : Arv Z h10 b9 k9 .char (8 : Int32) [(.int (64 : Int32)), (.int (0 : Int32)), (.int (0 : Int32)), (.int (0 : Int32)), (.int (0 : Int32)), (.int (0 : Int32)), (.int (0 : Int32)), (.int (0 : Int32))] (.int (0 : Int32)) := V10
    have Z10 : n0 ≤ h10.size := Nat.le_trans Z9 (Nat.le_of_eq W10.size.symm)
    have N10 := Fr.snoc X10 N8 gnb9
    have K10 : Keep h0 h10 [] := K9.wr W10 (Or.inr gkb9)
    show own_Go _ _ _ _ (T10.setTop (mkF m 52 #[.val (.int u0), .val (.int u1), .val (.int (u0.toUInt32.toUInt16.toUInt32.toInt32)), .val (.int ((u0.toUInt32.toUInt16.toUInt32.toInt32) ||| (32 : Int32))), .val (.int b), .val (.int (1 : Int32)), .unset, .unset, .unset, .unset] [(.ref b9)]))
    refine own_st (fun _ k => XS.dup X10.here hx rfl (hb hby at_52) rfl rfl k) ?_
    show own_Go _ _ _ _ (T10.setTop (mkF m 53 #[.val (.int u0), .val (.int u1), .val (.int (u0.toUInt32.toUInt16.toUInt32.toInt32)), .val (.int ((u0.toUInt32.toUInt16.toUInt32.toInt32) ||| (32 : Int32))), .val (.int b), .val (.int (1 : Int32)), .unset, .unset, .unset, .unset] [(.ref b9), (.ref b9)]))
    refine own_st (fun _ k => XS.iconst X10.here hx rfl (hb hby at_53) k) ?_
    show own_Go _ _ _ _ (T10.setTop (mkF m 54 #[.val (.int u0), .val (.int u1), .val (.int (u0.toUInt32.toUInt16.toUInt32.toInt32)), .val (.int ((u0.toUInt32.toUInt16.toUInt32.toInt32) ||| (32 : Int32))), .val (.int b), .val (.int (1 : Int32)), .unset, .unset, .unset, .unset] [(.int (1 : Int32)), (.ref b9), (.ref b9)]))
    refine own_st (fun _ k => XS.bipush X10.here hx rfl (hb hby at_54) k) ?_
    show own_Go _ _ _ _ (T10.setTop (mkF m 56 #[.val (.int u0), .val (.int u1), .val (.int (u0.toUInt32.toUInt16.toUInt32.toInt32)), .val (.int ((u0.toUInt32.toUInt16.toUInt32.toInt32) ||| (32 : Int32))), .val (.int b), .val (.int (1 : Int32)), .unset, .unset, .unset, .unset] [(.int (65 : Int32)), (.int (1 : Int32)), (.ref b9), (.ref b9)]))
    obtain ⟨cl11, Ar11, Kd11, Sz11, Nn11, Hs11, Gs11⟩ := id V10'
    obtain ⟨T11, h11, X11, e11, W11, st11⟩ := stC X10 hx hZ e10 Ar11 (j := (1 : Int32)) (inb_of Sz11 ⟨(by decide : ¬ ((1 : Int32) < (0 : Int32))), (by decide : (1 : Int32) < (8 : Int32))⟩) (g := (mkF m 56 #[.val (.int u0), .val (.int u1), .val (.int (u0.toUInt32.toUInt16.toUInt32.toInt32)), .val (.int ((u0.toUInt32.toUInt16.toUInt32.toInt32) ||| (32 : Int32))), .val (.int b), .val (.int (1 : Int32)), .unset, .unset, .unset, .unset] [(.int (65 : Int32)), (.int (1 : Int32)), (.ref b9), (.ref b9)])) rfl rfl (hb hby at_56)
    refine own_st st11 ?_
    have V11 := Arv.set Ar11 Kd11 Sz11 Nn11 Hs11 Gs11 (fits_nar_char _) W11 1 rfl (Nat.le_of_ble_eq_true rfl)
    have V11' : Arv Z h11 b9 k9 .char (8 : Int32) [(.int (64 : Int32)), (.int (65 : Int32)), (.int (0 : Int32)), (.int (0 : Int32)), (.int (0 : Int32)), (.int (0 : Int32)), (.int (0 : Int32)), (.int (0 : Int32))] (.int (0 : Int32)) := V11
    have Z11 : n0 ≤ h11.size := Nat.le_trans Z10 (Nat.le_of_eq W11.size.symm)
    have N11 := Fr.snoc X11 N10 gnb9
    have K11 : Keep h0 h11 [] := K10.wr W11 (Or.inr gkb9)
    show own_Go _ _ _ _ (T11.setTop (mkF m 57 #[.val (.int u0), .val (.int u1), .val (.int (u0.toUInt32.toUInt16.toUInt32.toInt32)), .val (.int ((u0.toUInt32.toUInt16.toUInt32.toInt32) ||| (32 : Int32))), .val (.int b), .val (.int (1 : Int32)), .unset, .unset, .unset, .unset] [(.ref b9)]))
    refine own_st (fun _ k => XS.dup X11.here hx rfl (hb hby at_57) rfl rfl k) ?_
    show own_Go _ _ _ _ (T11.setTop (mkF m 58 #[.val (.int u0), .val (.int u1), .val (.int (u0.toUInt32.toUInt16.toUInt32.toInt32)), .val (.int ((u0.toUInt32.toUInt16.toUInt32.toInt32) ||| (32 : Int32))), .val (.int b), .val (.int (1 : Int32)), .unset, .unset, .unset, .unset] [(.ref b9), (.ref b9)]))
    refine own_st (fun _ k => XS.iconst X11.here hx rfl (hb hby at_58) k) ?_
    show own_Go _ _ _ _ (T11.setTop (mkF m 59 #[.val (.int u0), .val (.int u1), .val (.int (u0.toUInt32.toUInt16.toUInt32.toInt32)), .val (.int ((u0.toUInt32.toUInt16.toUInt32.toInt32) ||| (32 : Int32))), .val (.int b), .val (.int (1 : Int32)), .unset, .unset, .unset, .unset] [(.int (2 : Int32)), (.ref b9), (.ref b9)]))
    refine own_st (fun _ k => XS.bipush X11.here hx rfl (hb hby at_59) k) ?_
    show own_Go _ _ _ _ (T11.setTop (mkF m 61 #[.val (.int u0), .val (.int u1), .val (.int (u0.toUInt32.toUInt16.toUInt32.toInt32)), .val (.int ((u0.toUInt32.toUInt16.toUInt32.toInt32) ||| (32 : Int32))), .val (.int b), .val (.int (1 : Int32)), .unset, .unset, .unset, .unset] [(.int (90 : Int32)), (.int (2 : Int32)), (.ref b9), (.ref b9)]))
    obtain ⟨cl12, Ar12, Kd12, Sz12, Nn12, Hs12, Gs12⟩ := id V11'
    obtain ⟨T12, h12, X12, e12, W12, st12⟩ := stC X11 hx hZ e11 Ar12 (j := (2 : Int32)) (inb_of Sz12 ⟨(by decide : ¬ ((2 : Int32) < (0 : Int32))), (by decide : (2 : Int32) < (8 : Int32))⟩) (g := (mkF m 61 #[.val (.int u0), .val (.int u1), .val (.int (u0.toUInt32.toUInt16.toUInt32.toInt32)), .val (.int ((u0.toUInt32.toUInt16.toUInt32.toInt32) ||| (32 : Int32))), .val (.int b), .val (.int (1 : Int32)), .unset, .unset, .unset, .unset] [(.int (90 : Int32)), (.int (2 : Int32)), (.ref b9), (.ref b9)])) rfl rfl (hb hby at_61)
    refine own_st st12 ?_
    have V12 := Arv.set Ar12 Kd12 Sz12 Nn12 Hs12 Gs12 (fits_nar_char _) W12 2 rfl (Nat.le_of_ble_eq_true rfl)
    have V12' : Arv Z h12 b9 k9 .char (8 : Int32) [(.int (64 : Int32)), (.int (65 : Int32)), (.int (90 : Int32)), (.int (0 : Int32)), (.int (0 : Int32)), (.int (0 : Int32)), (.int (0 : Int32)), (.int (0 : Int32))] (.int (0 : Int32)) := V12
    have Z12 : n0 ≤ h12.size := Nat.le_trans Z11 (Nat.le_of_eq W12.size.symm)
    have N12 := Fr.snoc X12 N11 gnb9
    have K12 : Keep h0 h12 [] := K11.wr W12 (Or.inr gkb9)
    show own_Go _ _ _ _ (T12.setTop (mkF m 62 #[.val (.int u0), .val (.int u1), .val (.int (u0.toUInt32.toUInt16.toUInt32.toInt32)), .val (.int ((u0.toUInt32.toUInt16.toUInt32.toInt32) ||| (32 : Int32))), .val (.int b), .val (.int (1 : Int32)), .unset, .unset, .unset, .unset] [(.ref b9)]))
    refine own_st (fun _ k => XS.dup X12.here hx rfl (hb hby at_62) rfl rfl k) ?_
    show own_Go _ _ _ _ (T12.setTop (mkF m 63 #[.val (.int u0), .val (.int u1), .val (.int (u0.toUInt32.toUInt16.toUInt32.toInt32)), .val (.int ((u0.toUInt32.toUInt16.toUInt32.toInt32) ||| (32 : Int32))), .val (.int b), .val (.int (1 : Int32)), .unset, .unset, .unset, .unset] [(.ref b9), (.ref b9)]))
    refine own_st (fun _ k => XS.iconst X12.here hx rfl (hb hby at_63) k) ?_
    show own_Go _ _ _ _ (T12.setTop (mkF m 64 #[.val (.int u0), .val (.int u1), .val (.int (u0.toUInt32.toUInt16.toUInt32.toInt32)), .val (.int ((u0.toUInt32.toUInt16.toUInt32.toInt32) ||| (32 : Int32))), .val (.int b), .val (.int (1 : Int32)), .unset, .unset, .unset, .unset] [(.int (3 : Int32)), (.ref b9), (.ref b9)]))
    refine own_st (fun _ k => XS.bipush X12.here hx rfl (hb hby at_64) k) ?_
    show own_Go _ _ _ _ (T12.setTop (mkF m 66 #[.val (.int u0), .val (.int u1), .val (.int (u0.toUInt32.toUInt16.toUInt32.toInt32)), .val (.int ((u0.toUInt32.toUInt16.toUInt32.toInt32) ||| (32 : Int32))), .val (.int b), .val (.int (1 : Int32)), .unset, .unset, .unset, .unset] [(.int (91 : Int32)), (.int (3 : Int32)), (.ref b9), (.ref b9)]))
    obtain ⟨cl13, Ar13, Kd13, Sz13, Nn13, Hs13, Gs13⟩ := id V12'
    obtain ⟨T13, h13, X13, e13, W13, st13⟩ := stC X12 hx hZ e12 Ar13 (j := (3 : Int32)) (inb_of Sz13 ⟨(by decide : ¬ ((3 : Int32) < (0 : Int32))), (by decide : (3 : Int32) < (8 : Int32))⟩) (g := (mkF m 66 #[.val (.int u0), .val (.int u1), .val (.int (u0.toUInt32.toUInt16.toUInt32.toInt32)), .val (.int ((u0.toUInt32.toUInt16.toUInt32.toInt32) ||| (32 : Int32))), .val (.int b), .val (.int (1 : Int32)), .unset, .unset, .unset, .unset] [(.int (91 : Int32)), (.int (3 : Int32)), (.ref b9), (.ref b9)])) rfl rfl (hb hby at_66)
    refine own_st st13 ?_
    have V13 := Arv.set Ar13 Kd13 Sz13 Nn13 Hs13 Gs13 (fits_nar_char _) W13 3 rfl (Nat.le_of_ble_eq_true rfl)
    have V13' : Arv Z h13 b9 k9 .char (8 : Int32) [(.int (64 : Int32)), (.int (65 : Int32)), (.int (90 : Int32)), (.int (91 : Int32)), (.int (0 : Int32)), (.int (0 : Int32)), (.int (0 : Int32)), (.int (0 : Int32))] (.int (0 : Int32)) := V13
    have Z13 : n0 ≤ h13.size := Nat.le_trans Z12 (Nat.le_of_eq W13.size.symm)
    have N13 := Fr.snoc X13 N12 gnb9
    have K13 : Keep h0 h13 [] := K12.wr W13 (Or.inr gkb9)
    show own_Go _ _ _ _ (T13.setTop (mkF m 67 #[.val (.int u0), .val (.int u1), .val (.int (u0.toUInt32.toUInt16.toUInt32.toInt32)), .val (.int ((u0.toUInt32.toUInt16.toUInt32.toInt32) ||| (32 : Int32))), .val (.int b), .val (.int (1 : Int32)), .unset, .unset, .unset, .unset] [(.ref b9)]))
    refine own_st (fun _ k => XS.dup X13.here hx rfl (hb hby at_67) rfl rfl k) ?_
    show own_Go _ _ _ _ (T13.setTop (mkF m 68 #[.val (.int u0), .val (.int u1), .val (.int (u0.toUInt32.toUInt16.toUInt32.toInt32)), .val (.int ((u0.toUInt32.toUInt16.toUInt32.toInt32) ||| (32 : Int32))), .val (.int b), .val (.int (1 : Int32)), .unset, .unset, .unset, .unset] [(.ref b9), (.ref b9)]))
    refine own_st (fun _ k => XS.iconst X13.here hx rfl (hb hby at_68) k) ?_
    show own_Go _ _ _ _ (T13.setTop (mkF m 69 #[.val (.int u0), .val (.int u1), .val (.int (u0.toUInt32.toUInt16.toUInt32.toInt32)), .val (.int ((u0.toUInt32.toUInt16.toUInt32.toInt32) ||| (32 : Int32))), .val (.int b), .val (.int (1 : Int32)), .unset, .unset, .unset, .unset] [(.int (4 : Int32)), (.ref b9), (.ref b9)]))
    refine own_st (fun _ k => XS.bipush X13.here hx rfl (hb hby at_69) k) ?_
    show own_Go _ _ _ _ (T13.setTop (mkF m 71 #[.val (.int u0), .val (.int u1), .val (.int (u0.toUInt32.toUInt16.toUInt32.toInt32)), .val (.int ((u0.toUInt32.toUInt16.toUInt32.toInt32) ||| (32 : Int32))), .val (.int b), .val (.int (1 : Int32)), .unset, .unset, .unset, .unset] [(.int (96 : Int32)), (.int (4 : Int32)), (.ref b9), (.ref b9)]))
    obtain ⟨cl14, Ar14, Kd14, Sz14, Nn14, Hs14, Gs14⟩ := id V13'
    obtain ⟨T14, h14, X14, e14, W14, st14⟩ := stC X13 hx hZ e13 Ar14 (j := (4 : Int32)) (inb_of Sz14 ⟨(by decide : ¬ ((4 : Int32) < (0 : Int32))), (by decide : (4 : Int32) < (8 : Int32))⟩) (g := (mkF m 71 #[.val (.int u0), .val (.int u1), .val (.int (u0.toUInt32.toUInt16.toUInt32.toInt32)), .val (.int ((u0.toUInt32.toUInt16.toUInt32.toInt32) ||| (32 : Int32))), .val (.int b), .val (.int (1 : Int32)), .unset, .unset, .unset, .unset] [(.int (96 : Int32)), (.int (4 : Int32)), (.ref b9), (.ref b9)])) rfl rfl (hb hby at_71)
    refine own_st st14 ?_
    have V14 := Arv.set Ar14 Kd14 Sz14 Nn14 Hs14 Gs14 (fits_nar_char _) W14 4 rfl (Nat.le_of_ble_eq_true rfl)
    have V14' : Arv Z h14 b9 k9 .char (8 : Int32) [(.int (64 : Int32)), (.int (65 : Int32)), (.int (90 : Int32)), (.int (91 : Int32)), (.int (96 : Int32)), (.int (0 : Int32)), (.int (0 : Int32)), (.int (0 : Int32))] (.int (0 : Int32)) := V14
    have Z14 : n0 ≤ h14.size := Nat.le_trans Z13 (Nat.le_of_eq W14.size.symm)
    have N14 := Fr.snoc X14 N13 gnb9
    have K14 : Keep h0 h14 [] := K13.wr W14 (Or.inr gkb9)
    show own_Go _ _ _ _ (T14.setTop (mkF m 72 #[.val (.int u0), .val (.int u1), .val (.int (u0.toUInt32.toUInt16.toUInt32.toInt32)), .val (.int ((u0.toUInt32.toUInt16.toUInt32.toInt32) ||| (32 : Int32))), .val (.int b), .val (.int (1 : Int32)), .unset, .unset, .unset, .unset] [(.ref b9)]))
    refine own_st (fun _ k => XS.dup X14.here hx rfl (hb hby at_72) rfl rfl k) ?_
    show own_Go _ _ _ _ (T14.setTop (mkF m 73 #[.val (.int u0), .val (.int u1), .val (.int (u0.toUInt32.toUInt16.toUInt32.toInt32)), .val (.int ((u0.toUInt32.toUInt16.toUInt32.toInt32) ||| (32 : Int32))), .val (.int b), .val (.int (1 : Int32)), .unset, .unset, .unset, .unset] [(.ref b9), (.ref b9)]))
    refine own_st (fun _ k => XS.iconst X14.here hx rfl (hb hby at_73) k) ?_
    show own_Go _ _ _ _ (T14.setTop (mkF m 74 #[.val (.int u0), .val (.int u1), .val (.int (u0.toUInt32.toUInt16.toUInt32.toInt32)), .val (.int ((u0.toUInt32.toUInt16.toUInt32.toInt32) ||| (32 : Int32))), .val (.int b), .val (.int (1 : Int32)), .unset, .unset, .unset, .unset] [(.int (5 : Int32)), (.ref b9), (.ref b9)]))
    refine own_st (fun _ k => XS.bipush X14.here hx rfl (hb hby at_74) k) ?_
    show own_Go _ _ _ _ (T14.setTop (mkF m 76 #[.val (.int u0), .val (.int u1), .val (.int (u0.toUInt32.toUInt16.toUInt32.toInt32)), .val (.int ((u0.toUInt32.toUInt16.toUInt32.toInt32) ||| (32 : Int32))), .val (.int b), .val (.int (1 : Int32)), .unset, .unset, .unset, .unset] [(.int (97 : Int32)), (.int (5 : Int32)), (.ref b9), (.ref b9)]))
    obtain ⟨cl15, Ar15, Kd15, Sz15, Nn15, Hs15, Gs15⟩ := id V14'
    obtain ⟨T15, h15, X15, e15, W15, st15⟩ := stC X14 hx hZ e14 Ar15 (j := (5 : Int32)) (inb_of Sz15 ⟨(by decide : ¬ ((5 : Int32) < (0 : Int32))), (by decide : (5 : Int32) < (8 : Int32))⟩) (g := (mkF m 76 #[.val (.int u0), .val (.int u1), .val (.int (u0.toUInt32.toUInt16.toUInt32.toInt32)), .val (.int ((u0.toUInt32.toUInt16.toUInt32.toInt32) ||| (32 : Int32))), .val (.int b), .val (.int (1 : Int32)), .unset, .unset, .unset, .unset] [(.int (97 : Int32)), (.int (5 : Int32)), (.ref b9), (.ref b9)])) rfl rfl (hb hby at_76)
    refine own_st st15 ?_
    have V15 := Arv.set Ar15 Kd15 Sz15 Nn15 Hs15 Gs15 (fits_nar_char _) W15 5 rfl (Nat.le_of_ble_eq_true rfl)
    have V15' : Arv Z h15 b9 k9 .char (8 : Int32) [(.int (64 : Int32)), (.int (65 : Int32)), (.int (90 : Int32)), (.int (91 : Int32)), (.int (96 : Int32)), (.int (97 : Int32)), (.int (0 : Int32)), (.int (0 : Int32))] (.int (0 : Int32)) := V15
    have Z15 : n0 ≤ h15.size := Nat.le_trans Z14 (Nat.le_of_eq W15.size.symm)
    have N15 := Fr.snoc X15 N14 gnb9
    have K15 : Keep h0 h15 [] := K14.wr W15 (Or.inr gkb9)
    show own_Go _ _ _ _ (T15.setTop (mkF m 77 #[.val (.int u0), .val (.int u1), .val (.int (u0.toUInt32.toUInt16.toUInt32.toInt32)), .val (.int ((u0.toUInt32.toUInt16.toUInt32.toInt32) ||| (32 : Int32))), .val (.int b), .val (.int (1 : Int32)), .unset, .unset, .unset, .unset] [(.ref b9)]))
    refine own_st (fun _ k => XS.dup X15.here hx rfl (hb hby at_77) rfl rfl k) ?_
    show own_Go _ _ _ _ (T15.setTop (mkF m 78 #[.val (.int u0), .val (.int u1), .val (.int (u0.toUInt32.toUInt16.toUInt32.toInt32)), .val (.int ((u0.toUInt32.toUInt16.toUInt32.toInt32) ||| (32 : Int32))), .val (.int b), .val (.int (1 : Int32)), .unset, .unset, .unset, .unset] [(.ref b9), (.ref b9)]))
    refine own_st (fun _ k => XS.bipush X15.here hx rfl (hb hby at_78) k) ?_
    show own_Go _ _ _ _ (T15.setTop (mkF m 80 #[.val (.int u0), .val (.int u1), .val (.int (u0.toUInt32.toUInt16.toUInt32.toInt32)), .val (.int ((u0.toUInt32.toUInt16.toUInt32.toInt32) ||| (32 : Int32))), .val (.int b), .val (.int (1 : Int32)), .unset, .unset, .unset, .unset] [(.int (6 : Int32)), (.ref b9), (.ref b9)]))
    refine own_st (fun _ k => XS.bipush X15.here hx rfl (hb hby at_80) k) ?_
    show own_Go _ _ _ _ (T15.setTop (mkF m 82 #[.val (.int u0), .val (.int u1), .val (.int (u0.toUInt32.toUInt16.toUInt32.toInt32)), .val (.int ((u0.toUInt32.toUInt16.toUInt32.toInt32) ||| (32 : Int32))), .val (.int b), .val (.int (1 : Int32)), .unset, .unset, .unset, .unset] [(.int (122 : Int32)), (.int (6 : Int32)), (.ref b9), (.ref b9)]))
    obtain ⟨cl16, Ar16, Kd16, Sz16, Nn16, Hs16, Gs16⟩ := id V15'
    obtain ⟨T16, h16, X16, e16, W16, st16⟩ := stC X15 hx hZ e15 Ar16 (j := (6 : Int32)) (inb_of Sz16 ⟨(by decide : ¬ ((6 : Int32) < (0 : Int32))), (by decide : (6 : Int32) < (8 : Int32))⟩) (g := (mkF m 82 #[.val (.int u0), .val (.int u1), .val (.int (u0.toUInt32.toUInt16.toUInt32.toInt32)), .val (.int ((u0.toUInt32.toUInt16.toUInt32.toInt32) ||| (32 : Int32))), .val (.int b), .val (.int (1 : Int32)), .unset, .unset, .unset, .unset] [(.int (122 : Int32)), (.int (6 : Int32)), (.ref b9), (.ref b9)])) rfl rfl (hb hby at_82)
    refine own_st st16 ?_
    have V16 := Arv.set Ar16 Kd16 Sz16 Nn16 Hs16 Gs16 (fits_nar_char _) W16 6 rfl (Nat.le_of_ble_eq_true rfl)
    have V16' : Arv Z h16 b9 k9 .char (8 : Int32) [(.int (64 : Int32)), (.int (65 : Int32)), (.int (90 : Int32)), (.int (91 : Int32)), (.int (96 : Int32)), (.int (97 : Int32)), (.int (122 : Int32)), (.int (0 : Int32))] (.int (0 : Int32)) := V16
    have Z16 : n0 ≤ h16.size := Nat.le_trans Z15 (Nat.le_of_eq W16.size.symm)
    have N16 := Fr.snoc X16 N15 gnb9
    have K16 : Keep h0 h16 [] := K15.wr W16 (Or.inr gkb9)
    show own_Go _ _ _ _ (T16.setTop (mkF m 83 #[.val (.int u0), .val (.int u1), .val (.int (u0.toUInt32.toUInt16.toUInt32.toInt32)), .val (.int ((u0.toUInt32.toUInt16.toUInt32.toInt32) ||| (32 : Int32))), .val (.int b), .val (.int (1 : Int32)), .unset, .unset, .unset, .unset] [(.ref b9)]))
    refine own_st (fun _ k => XS.dup X16.here hx rfl (hb hby at_83) rfl rfl k) ?_
    show own_Go _ _ _ _ (T16.setTop (mkF m 84 #[.val (.int u0), .val (.int u1), .val (.int (u0.toUInt32.toUInt16.toUInt32.toInt32)), .val (.int ((u0.toUInt32.toUInt16.toUInt32.toInt32) ||| (32 : Int32))), .val (.int b), .val (.int (1 : Int32)), .unset, .unset, .unset, .unset] [(.ref b9), (.ref b9)]))
    refine own_st (fun _ k => XS.bipush X16.here hx rfl (hb hby at_84) k) ?_
    show own_Go _ _ _ _ (T16.setTop (mkF m 86 #[.val (.int u0), .val (.int u1), .val (.int (u0.toUInt32.toUInt16.toUInt32.toInt32)), .val (.int ((u0.toUInt32.toUInt16.toUInt32.toInt32) ||| (32 : Int32))), .val (.int b), .val (.int (1 : Int32)), .unset, .unset, .unset, .unset] [(.int (7 : Int32)), (.ref b9), (.ref b9)]))
    refine own_st (fun _ k => XS.bipush X16.here hx rfl (hb hby at_86) k) ?_
    show own_Go _ _ _ _ (T16.setTop (mkF m 88 #[.val (.int u0), .val (.int u1), .val (.int (u0.toUInt32.toUInt16.toUInt32.toInt32)), .val (.int ((u0.toUInt32.toUInt16.toUInt32.toInt32) ||| (32 : Int32))), .val (.int b), .val (.int (1 : Int32)), .unset, .unset, .unset, .unset] [(.int (123 : Int32)), (.int (7 : Int32)), (.ref b9), (.ref b9)]))
    obtain ⟨cl17, Ar17, Kd17, Sz17, Nn17, Hs17, Gs17⟩ := id V16'
    obtain ⟨T17, h17, X17, e17, W17, st17⟩ := stC X16 hx hZ e16 Ar17 (j := (7 : Int32)) (inb_of Sz17 ⟨(by decide : ¬ ((7 : Int32) < (0 : Int32))), (by decide : (7 : Int32) < (8 : Int32))⟩) (g := (mkF m 88 #[.val (.int u0), .val (.int u1), .val (.int (u0.toUInt32.toUInt16.toUInt32.toInt32)), .val (.int ((u0.toUInt32.toUInt16.toUInt32.toInt32) ||| (32 : Int32))), .val (.int b), .val (.int (1 : Int32)), .unset, .unset, .unset, .unset] [(.int (123 : Int32)), (.int (7 : Int32)), (.ref b9), (.ref b9)])) rfl rfl (hb hby at_88)
    refine own_st st17 ?_
    have V17 := Arv.set Ar17 Kd17 Sz17 Nn17 Hs17 Gs17 (fits_nar_char _) W17 7 rfl (Nat.le_of_ble_eq_true rfl)
    have V17' : Arv Z h17 b9 k9 .char (8 : Int32) [(.int (64 : Int32)), (.int (65 : Int32)), (.int (90 : Int32)), (.int (91 : Int32)), (.int (96 : Int32)), (.int (97 : Int32)), (.int (122 : Int32)), (.int (123 : Int32))] (.int (0 : Int32)) := V17
    have Z17 : n0 ≤ h17.size := Nat.le_trans Z16 (Nat.le_of_eq W17.size.symm)
    have N17 := Fr.snoc X17 N16 gnb9
    have K17 : Keep h0 h17 [] := K16.wr W17 (Or.inr gkb9)
    show own_Go _ _ _ _ (T17.setTop (mkF m 89 #[.val (.int u0), .val (.int u1), .val (.int (u0.toUInt32.toUInt16.toUInt32.toInt32)), .val (.int ((u0.toUInt32.toUInt16.toUInt32.toInt32) ||| (32 : Int32))), .val (.int b), .val (.int (1 : Int32)), .unset, .unset, .unset, .unset] [(.ref b9)]))
    refine own_st (fun _ k => XS.astore X17.here hx rfl (hb hby at_89) rfl rfl (l' := #[.val (.int u0), .val (.int u1), .val (.int (u0.toUInt32.toUInt16.toUInt32.toInt32)), .val (.int ((u0.toUInt32.toUInt16.toUInt32.toInt32) ||| (32 : Int32))), .val (.int b), .val (.int (1 : Int32)), .val (.ref b9), .unset, .unset, .unset]) rfl k) ?_
    show own_Go _ _ _ _ (T17.setTop (mkF m 91 #[.val (.int u0), .val (.int u1), .val (.int (u0.toUInt32.toUInt16.toUInt32.toInt32)), .val (.int ((u0.toUInt32.toUInt16.toUInt32.toInt32) ||| (32 : Int32))), .val (.int b), .val (.int (1 : Int32)), .val (.ref b9), .unset, .unset, .unset] []))
    refine own_st (fun _ k => XS.iloadN X17.here hx rfl (hb hby at_91) rfl k) ?_
    show own_Go _ _ _ _ (T17.setTop (mkF m 92 #[.val (.int u0), .val (.int u1), .val (.int (u0.toUInt32.toUInt16.toUInt32.toInt32)), .val (.int ((u0.toUInt32.toUInt16.toUInt32.toInt32) ||| (32 : Int32))), .val (.int b), .val (.int (1 : Int32)), .val (.ref b9), .unset, .unset, .unset] [(.int u1)]))
    refine own_st (fun _ k => X17.ldcInt hx hown (mvT hZ (hw _ (List.mem_of_getElem? (i := 5) rfl))) (g := (mkF m 92 #[.val (.int u0), .val (.int u1), .val (.int (u0.toUInt32.toUInt16.toUInt32.toInt32)), .val (.int ((u0.toUInt32.toUInt16.toUInt32.toInt32) ||| (32 : Int32))), .val (.int b), .val (.int (1 : Int32)), .val (.ref b9), .unset, .unset, .unset] [(.int u1)])) rfl (hb hby at_92) _ k) ?_
    show own_Go _ _ _ _ (T17.setTop (mkF m 94 #[.val (.int u0), .val (.int u1), .val (.int (u0.toUInt32.toUInt16.toUInt32.toInt32)), .val (.int ((u0.toUInt32.toUInt16.toUInt32.toInt32) ||| (32 : Int32))), .val (.int b), .val (.int (1 : Int32)), .val (.ref b9), .unset, .unset, .unset] [(.int (2147483647 : Int32)), (.int u1)]))
    refine own_st (fun _ k => XS.iand X17.here hx rfl (hb hby at_94) rfl k) ?_
    show own_Go _ _ _ _ (T17.setTop (mkF m 95 #[.val (.int u0), .val (.int u1), .val (.int (u0.toUInt32.toUInt16.toUInt32.toInt32)), .val (.int ((u0.toUInt32.toUInt16.toUInt32.toInt32) ||| (32 : Int32))), .val (.int b), .val (.int (1 : Int32)), .val (.ref b9), .unset, .unset, .unset] [(.int (u1 &&& (2147483647 : Int32)))]))
    refine own_st (fun _ k => XS.bipush X17.here hx rfl (hb hby at_95) k) ?_
    show own_Go _ _ _ _ (T17.setTop (mkF m 97 #[.val (.int u0), .val (.int u1), .val (.int (u0.toUInt32.toUInt16.toUInt32.toInt32)), .val (.int ((u0.toUInt32.toUInt16.toUInt32.toInt32) ||| (32 : Int32))), .val (.int b), .val (.int (1 : Int32)), .val (.ref b9), .unset, .unset, .unset] [(.int (8 : Int32)), (.int (u1 &&& (2147483647 : Int32)))]))
    refine own_st (fun _ k => XS.irem X17.here hx rfl (hb hby at_97) rfl (by decide : ¬ ((8 : Int32) = (0 : Int32))) k) ?_
    show own_Go _ _ _ _ (T17.setTop (mkF m 98 #[.val (.int u0), .val (.int u1), .val (.int (u0.toUInt32.toUInt16.toUInt32.toInt32)), .val (.int ((u0.toUInt32.toUInt16.toUInt32.toInt32) ||| (32 : Int32))), .val (.int b), .val (.int (1 : Int32)), .val (.ref b9), .unset, .unset, .unset] [(.int ((u1 &&& (2147483647 : Int32)) - ((u1 &&& (2147483647 : Int32)) / (8 : Int32)) * (8 : Int32)))]))
    refine own_st (fun _ k => XS.istore X17.here hx rfl (hb hby at_98) rfl (l' := #[.val (.int u0), .val (.int u1), .val (.int (u0.toUInt32.toUInt16.toUInt32.toInt32)), .val (.int ((u0.toUInt32.toUInt16.toUInt32.toInt32) ||| (32 : Int32))), .val (.int b), .val (.int (1 : Int32)), .val (.ref b9), .val (.int ((u1 &&& (2147483647 : Int32)) - ((u1 &&& (2147483647 : Int32)) / (8 : Int32)) * (8 : Int32))), .unset, .unset]) rfl k) ?_
    show own_Go _ _ _ _ (T17.setTop (mkF m 100 #[.val (.int u0), .val (.int u1), .val (.int (u0.toUInt32.toUInt16.toUInt32.toInt32)), .val (.int ((u0.toUInt32.toUInt16.toUInt32.toInt32) ||| (32 : Int32))), .val (.int b), .val (.int (1 : Int32)), .val (.ref b9), .val (.int ((u1 &&& (2147483647 : Int32)) - ((u1 &&& (2147483647 : Int32)) / (8 : Int32)) * (8 : Int32))), .unset, .unset] []))
    rcases own_m8 u1 with hs18 | hs18 | hs18 | hs18 | hs18 | hs18 | hs18 | hs18
    · skip
      rw [hs18]
      show own_Go _ _ _ _ (T17.setTop (mkF m 100 #[.val (.int u0), .val (.int u1), .val (.int (u0.toUInt32.toUInt16.toUInt32.toInt32)), .val (.int ((u0.toUInt32.toUInt16.toUInt32.toInt32) ||| (32 : Int32))), .val (.int b), .val (.int (1 : Int32)), .val (.ref b9), .val (.int (0 : Int32)), .unset, .unset] []))
      refine own_st (fun _ k => XS.iload X17.here hx rfl (hb hby at_100) rfl k) ?_
      show own_Go _ _ _ _ (T17.setTop (mkF m 102 #[.val (.int u0), .val (.int u1), .val (.int (u0.toUInt32.toUInt16.toUInt32.toInt32)), .val (.int ((u0.toUInt32.toUInt16.toUInt32.toInt32) ||| (32 : Int32))), .val (.int b), .val (.int (1 : Int32)), .val (.ref b9), .val (.int (0 : Int32)), .unset, .unset] [(.int (0 : Int32))]))
      refine own_st (fun _ k => XS.iconst X17.here hx rfl (hb hby at_102) k) ?_
      show own_Go _ _ _ _ (T17.setTop (mkF m 103 #[.val (.int u0), .val (.int u1), .val (.int (u0.toUInt32.toUInt16.toUInt32.toInt32)), .val (.int ((u0.toUInt32.toUInt16.toUInt32.toInt32) ||| (32 : Int32))), .val (.int b), .val (.int (1 : Int32)), .val (.ref b9), .val (.int (0 : Int32)), .unset, .unset] [(.int (1 : Int32)), (.int (0 : Int32))]))
      refine own_st (fun _ k => XS.icmpNo X17.here hx rfl (hb hby at_103) rfl (feq (by decide : ¬ ((0 : Int32) = (1 : Int32)))).1 k) ?_
      show own_Go _ _ _ _ (T17.setTop (mkF m 106 #[.val (.int u0), .val (.int u1), .val (.int (u0.toUInt32.toUInt16.toUInt32.toInt32)), .val (.int ((u0.toUInt32.toUInt16.toUInt32.toInt32) ||| (32 : Int32))), .val (.int b), .val (.int (1 : Int32)), .val (.ref b9), .val (.int (0 : Int32)), .unset, .unset] []))
      refine own_st (fun _ k => XS.iload X17.here hx rfl (hb hby at_106) rfl k) ?_
      show own_Go _ _ _ _ (T17.setTop (mkF m 108 #[.val (.int u0), .val (.int u1), .val (.int (u0.toUInt32.toUInt16.toUInt32.toInt32)), .val (.int ((u0.toUInt32.toUInt16.toUInt32.toInt32) ||| (32 : Int32))), .val (.int b), .val (.int (1 : Int32)), .val (.ref b9), .val (.int (0 : Int32)), .unset, .unset] [(.int (0 : Int32))]))
      refine own_st (fun _ k => XS.iconst X17.here hx rfl (hb hby at_108) k) ?_
      show own_Go _ _ _ _ (T17.setTop (mkF m 109 #[.val (.int u0), .val (.int u1), .val (.int (u0.toUInt32.toUInt16.toUInt32.toInt32)), .val (.int ((u0.toUInt32.toUInt16.toUInt32.toInt32) ||| (32 : Int32))), .val (.int b), .val (.int (1 : Int32)), .val (.ref b9), .val (.int (0 : Int32)), .unset, .unset] [(.int (2 : Int32)), (.int (0 : Int32))]))
      refine own_st (fun _ k => XS.icmpNo X17.here hx rfl (hb hby at_109) rfl (feq (by decide : ¬ ((0 : Int32) = (2 : Int32)))).1 k) ?_
      show own_Go _ _ _ _ (T17.setTop (mkF m 112 #[.val (.int u0), .val (.int u1), .val (.int (u0.toUInt32.toUInt16.toUInt32.toInt32)), .val (.int ((u0.toUInt32.toUInt16.toUInt32.toInt32) ||| (32 : Int32))), .val (.int b), .val (.int (1 : Int32)), .val (.ref b9), .val (.int (0 : Int32)), .unset, .unset] []))
      refine own_st (fun _ k => XS.iload X17.here hx rfl (hb hby at_112) rfl k) ?_
      show own_Go _ _ _ _ (T17.setTop (mkF m 114 #[.val (.int u0), .val (.int u1), .val (.int (u0.toUInt32.toUInt16.toUInt32.toInt32)), .val (.int ((u0.toUInt32.toUInt16.toUInt32.toInt32) ||| (32 : Int32))), .val (.int b), .val (.int (1 : Int32)), .val (.ref b9), .val (.int (0 : Int32)), .unset, .unset] [(.int (0 : Int32))]))
      refine own_st (fun _ k => XS.iconst X17.here hx rfl (hb hby at_114) k) ?_
      show own_Go _ _ _ _ (T17.setTop (mkF m 115 #[.val (.int u0), .val (.int u1), .val (.int (u0.toUInt32.toUInt16.toUInt32.toInt32)), .val (.int ((u0.toUInt32.toUInt16.toUInt32.toInt32) ||| (32 : Int32))), .val (.int b), .val (.int (1 : Int32)), .val (.ref b9), .val (.int (0 : Int32)), .unset, .unset] [(.int (5 : Int32)), (.int (0 : Int32))]))
      refine own_st (fun _ k => XS.icmpNo X17.here hx rfl (hb hby at_115) rfl (feq (by decide : ¬ ((0 : Int32) = (5 : Int32)))).1 k) ?_
      show own_Go _ _ _ _ (T17.setTop (mkF m 118 #[.val (.int u0), .val (.int u1), .val (.int (u0.toUInt32.toUInt16.toUInt32.toInt32)), .val (.int ((u0.toUInt32.toUInt16.toUInt32.toInt32) ||| (32 : Int32))), .val (.int b), .val (.int (1 : Int32)), .val (.ref b9), .val (.int (0 : Int32)), .unset, .unset] []))
      refine own_st (fun _ k => XS.iload X17.here hx rfl (hb hby at_118) rfl k) ?_
      show own_Go _ _ _ _ (T17.setTop (mkF m 120 #[.val (.int u0), .val (.int u1), .val (.int (u0.toUInt32.toUInt16.toUInt32.toInt32)), .val (.int ((u0.toUInt32.toUInt16.toUInt32.toInt32) ||| (32 : Int32))), .val (.int b), .val (.int (1 : Int32)), .val (.ref b9), .val (.int (0 : Int32)), .unset, .unset] [(.int (0 : Int32))]))
      refine own_st (fun _ k => XS.bipush X17.here hx rfl (hb hby at_120) k) ?_
      show own_Go _ _ _ _ (T17.setTop (mkF m 122 #[.val (.int u0), .val (.int u1), .val (.int (u0.toUInt32.toUInt16.toUInt32.toInt32)), .val (.int ((u0.toUInt32.toUInt16.toUInt32.toInt32) ||| (32 : Int32))), .val (.int b), .val (.int (1 : Int32)), .val (.ref b9), .val (.int (0 : Int32)), .unset, .unset] [(.int (6 : Int32)), (.int (0 : Int32))]))
      refine own_st (fun _ k => XS.icmpYes X17.here hx rfl (pc0 := 122) (pc' := 129) rfl (hb hby at_122) rfl (feq (by decide : ¬ ((0 : Int32) = (6 : Int32)))).2 (by decide) (by decide) k) ?_
      show own_Go _ _ _ _ (T17.setTop (mkF m 129 #[.val (.int u0), .val (.int u1), .val (.int (u0.toUInt32.toUInt16.toUInt32.toInt32)), .val (.int ((u0.toUInt32.toUInt16.toUInt32.toInt32) ||| (32 : Int32))), .val (.int b), .val (.int (1 : Int32)), .val (.ref b9), .val (.int (0 : Int32)), .unset, .unset] []))
      refine own_st (fun _ k => XS.iconst X17.here hx rfl (hb hby at_129) k) ?_
      show own_Go _ _ _ _ (T17.setTop (mkF m 130 #[.val (.int u0), .val (.int u1), .val (.int (u0.toUInt32.toUInt16.toUInt32.toInt32)), .val (.int ((u0.toUInt32.toUInt16.toUInt32.toInt32) ||| (32 : Int32))), .val (.int b), .val (.int (1 : Int32)), .val (.ref b9), .val (.int (0 : Int32)), .unset, .unset] [(.int (0 : Int32))]))
      refine own_st (fun _ k => XS.istore X17.here hx rfl (hb hby at_130) rfl (l' := #[.val (.int u0), .val (.int u1), .val (.int (u0.toUInt32.toUInt16.toUInt32.toInt32)), .val (.int ((u0.toUInt32.toUInt16.toUInt32.toInt32) ||| (32 : Int32))), .val (.int b), .val (.int (1 : Int32)), .val (.ref b9), .val (.int (0 : Int32)), .val (.int (0 : Int32)), .unset]) rfl k) ?_
      show own_Go _ _ _ _ (T17.setTop (mkF m 132 #[.val (.int u0), .val (.int u1), .val (.int (u0.toUInt32.toUInt16.toUInt32.toInt32)), .val (.int ((u0.toUInt32.toUInt16.toUInt32.toInt32) ||| (32 : Int32))), .val (.int b), .val (.int (1 : Int32)), .val (.ref b9), .val (.int (0 : Int32)), .val (.int (0 : Int32)), .unset] []))
      refine own_st (fun _ k => XS.aload X17.here hx rfl (hb hby at_132) rfl rfl k) ?_
      show own_Go _ _ _ _ (T17.setTop (mkF m 134 #[.val (.int u0), .val (.int u1), .val (.int (u0.toUInt32.toUInt16.toUInt32.toInt32)), .val (.int ((u0.toUInt32.toUInt16.toUInt32.toInt32) ||| (32 : Int32))), .val (.int b), .val (.int (1 : Int32)), .val (.ref b9), .val (.int (0 : Int32)), .val (.int (0 : Int32)), .unset] [(.ref b9)]))
      refine own_st (fun _ k => XS.iload X17.here hx rfl (hb hby at_134) rfl k) ?_
      show own_Go _ _ _ _ (T17.setTop (mkF m 136 #[.val (.int u0), .val (.int u1), .val (.int (u0.toUInt32.toUInt16.toUInt32.toInt32)), .val (.int ((u0.toUInt32.toUInt16.toUInt32.toInt32) ||| (32 : Int32))), .val (.int b), .val (.int (1 : Int32)), .val (.ref b9), .val (.int (0 : Int32)), .val (.int (0 : Int32)), .unset] [(.int (0 : Int32)), (.ref b9)]))
      obtain ⟨cl19, Ar19, -, Sz19, Nn19, Hs19, -⟩ := id V17'
      have hin19 : ¬ ((0 : Int32) < 0 ∨ cl19.slots.size ≤ ((0 : Int32)).toNatClampNeg) := inb_of Sz19 ⟨(by decide : ¬ ((0 : Int32) < (0 : Int32))), (by decide : (0 : Int32) < (8 : Int32))⟩
      have hat19 : cl19.slots[((0 : Int32)).toNatClampNeg]? = some (.int (64 : Int32)) := Hs19.at hin19 rfl
      refine own_st (X17.caload hx (j := (0 : Int32)) (v := (.int (64 : Int32))) (by rw [e17]; exact Ar19.1) (State.isArrayOf_alike hZ.alike Ar19.2.1) Ar19.2.2 hin19 hat19 (g := (mkF m 136 #[.val (.int u0), .val (.int u1), .val (.int (u0.toUInt32.toUInt16.toUInt32.toInt32)), .val (.int ((u0.toUInt32.toUInt16.toUInt32.toInt32) ||| (32 : Int32))), .val (.int b), .val (.int (1 : Int32)), .val (.ref b9), .val (.int (0 : Int32)), .val (.int (0 : Int32)), .unset] [(.int (0 : Int32)), (.ref b9)])) rfl rfl (hb hby at_136)) ?_
      show own_Go _ _ _ _ (T17.setTop (mkF m 137 #[.val (.int u0), .val (.int u1), .val (.int (u0.toUInt32.toUInt16.toUInt32.toInt32)), .val (.int ((u0.toUInt32.toUInt16.toUInt32.toInt32) ||| (32 : Int32))), .val (.int b), .val (.int (1 : Int32)), .val (.ref b9), .val (.int (0 : Int32)), .val (.int (0 : Int32)), .unset] [(.int (64 : Int32))]))
      obtain ⟨_, _, ⟨T20, L20, k20, n20⟩, -, X20, ⟨Lc20, hQ20, l20, y20, z20⟩, st20⟩ := Jvm.LawKit.callS X17 hx (y := (⟨"com/example/handler/handler/HttpSyntax", "isLetter", "(C)Z"⟩ : MethodName)) hown (mvT hZ (hw _ (List.mem_of_getElem? (i := 0) rfl))) (mvT hZ (hw _ (List.mem_of_getElem? (i := 1) rfl))) (mvT hZ (hw _ (List.mem_of_getElem? (i := 2) rfl))) (mvT hZ (hw _ (List.mem_of_getElem? (i := 3) rfl))) (by decide) (backOf (W := 0) (rm1 l Z a0 hw [] (64 : Int32) h17 n0 Z17 ) hZ (hw _ (List.mem_of_getElem? (i := 3) rfl)) (hw _ (List.mem_of_getElem? (i := 2) rfl)) (by decide) (by decide)) (g := (mkF m 137 #[.val (.int u0), .val (.int u1), .val (.int (u0.toUInt32.toUInt16.toUInt32.toInt32)), .val (.int ((u0.toUInt32.toUInt16.toUInt32.toInt32) ||| (32 : Int32))), .val (.int b), .val (.int (1 : Int32)), .val (.ref b9), .val (.int (0 : Int32)), .val (.int (0 : Int32)), .unset] [(.int (64 : Int32))])) rfl (by rw [hml]; rfl) (argsL := [(.int (64 : Int32))]) (rest := []) (lenOf own_pd0 rfl) rfl (by show 2 * 0 + _ ≤ _; exact Nat.le_of_eq rfl) (hb hby at_137) (fun _ _ => ⟨rfl, e17, (by decide : 1 + 0 ≤ _), (by decide : 8 + 0 ≤ _)⟩)
      dsimp only [Pt.U, Pt.locs, Pt.cells, Pt.slots] at X20 l20 y20 z20 st20 hQ20
      subst l20 y20 z20
      obtain ⟨rfl, Nq20, eq20⟩ := hQ20
      have N20 := Fr.app N17 Nq20
      refine own_st st20 ?_
      show own_Go _ _ _ _ (T20.setTop (mkF m 140 #[.val (.int u0), .val (.int u1), .val (.int (u0.toUInt32.toUInt16.toUInt32.toInt32)), .val (.int ((u0.toUInt32.toUInt16.toUInt32.toInt32) ||| (32 : Int32))), .val (.int b), .val (.int (1 : Int32)), .val (.ref b9), .val (.int (0 : Int32)), .val (.int (0 : Int32)), .unset] [(.int (own_il (64 : Int32)))]))
      refine own_st (fun _ k => XS.iload X20.here hx rfl (hb hby at_140) rfl k) ?_
      show own_Go _ _ _ _ (T20.setTop (mkF m 142 #[.val (.int u0), .val (.int u1), .val (.int (u0.toUInt32.toUInt16.toUInt32.toInt32)), .val (.int ((u0.toUInt32.toUInt16.toUInt32.toInt32) ||| (32 : Int32))), .val (.int b), .val (.int (1 : Int32)), .val (.ref b9), .val (.int (0 : Int32)), .val (.int (0 : Int32)), .unset] [(.int (0 : Int32)), (.int (own_il (64 : Int32)))]))
      refine own_st (fun _ k => XS.icmpNo X20.here hx rfl (hb hby at_142) rfl (teq (by decide)).2 k) ?_
      show own_Go _ _ _ _ (T20.setTop (mkF m 145 #[.val (.int u0), .val (.int u1), .val (.int (u0.toUInt32.toUInt16.toUInt32.toInt32)), .val (.int ((u0.toUInt32.toUInt16.toUInt32.toInt32) ||| (32 : Int32))), .val (.int b), .val (.int (1 : Int32)), .val (.ref b9), .val (.int (0 : Int32)), .val (.int (0 : Int32)), .unset] []))
      refine own_st (fun _ k => XS.iconst X20.here hx rfl (hb hby at_145) k) ?_
      show own_Go _ _ _ _ (T20.setTop (mkF m 146 #[.val (.int u0), .val (.int u1), .val (.int (u0.toUInt32.toUInt16.toUInt32.toInt32)), .val (.int ((u0.toUInt32.toUInt16.toUInt32.toInt32) ||| (32 : Int32))), .val (.int b), .val (.int (1 : Int32)), .val (.ref b9), .val (.int (0 : Int32)), .val (.int (0 : Int32)), .unset] [(.int (1 : Int32))]))
      refine own_st (fun _ k => XS.goto X20.here hx rfl (pc0 := 146) (pc' := 150) rfl (hb hby at_146) (by decide) (by decide) k) ?_
      show own_Go _ _ _ _ (T20.setTop (mkF m 150 #[.val (.int u0), .val (.int u1), .val (.int (u0.toUInt32.toUInt16.toUInt32.toInt32)), .val (.int ((u0.toUInt32.toUInt16.toUInt32.toInt32) ||| (32 : Int32))), .val (.int b), .val (.int (1 : Int32)), .val (.ref b9), .val (.int (0 : Int32)), .val (.int (0 : Int32)), .unset] [(.int (1 : Int32))]))
      refine own_st (fun _ k => XS.istore X20.here hx rfl (hb hby at_150) rfl (l' := #[.val (.int u0), .val (.int u1), .val (.int (u0.toUInt32.toUInt16.toUInt32.toInt32)), .val (.int ((u0.toUInt32.toUInt16.toUInt32.toInt32) ||| (32 : Int32))), .val (.int b), .val (.int (1 : Int32)), .val (.ref b9), .val (.int (0 : Int32)), .val (.int (0 : Int32)), .val (.int (1 : Int32))]) rfl k) ?_
      show own_Go _ _ _ _ (T20.setTop (mkF m 152 #[.val (.int u0), .val (.int u1), .val (.int (u0.toUInt32.toUInt16.toUInt32.toInt32)), .val (.int ((u0.toUInt32.toUInt16.toUInt32.toInt32) ||| (32 : Int32))), .val (.int b), .val (.int (1 : Int32)), .val (.ref b9), .val (.int (0 : Int32)), .val (.int (0 : Int32)), .val (.int (1 : Int32))] []))
      refine own_st (fun _ k => XS.iload X20.here hx rfl (hb hby at_152) rfl k) ?_
      show own_Go _ _ _ _ (T20.setTop (mkF m 154 #[.val (.int u0), .val (.int u1), .val (.int (u0.toUInt32.toUInt16.toUInt32.toInt32)), .val (.int ((u0.toUInt32.toUInt16.toUInt32.toInt32) ||| (32 : Int32))), .val (.int b), .val (.int (1 : Int32)), .val (.ref b9), .val (.int (0 : Int32)), .val (.int (0 : Int32)), .val (.int (1 : Int32))] [(.int (1 : Int32))]))
      refine own_st (fun _ k => XS.ifNo X20.here hx rfl (hb hby at_154) rfl ((if0 _ _).trans (feq (by decide : ¬ ((1 : Int32) = (0 : Int32)))).1) k) ?_
      show own_Go _ _ _ _ (T20.setTop (mkF m 157 #[.val (.int u0), .val (.int u1), .val (.int (u0.toUInt32.toUInt16.toUInt32.toInt32)), .val (.int ((u0.toUInt32.toUInt16.toUInt32.toInt32) ||| (32 : Int32))), .val (.int b), .val (.int (1 : Int32)), .val (.ref b9), .val (.int (0 : Int32)), .val (.int (0 : Int32)), .val (.int (1 : Int32))] []))
      refine own_st (fun _ k => XS.iload X20.here hx rfl (hb hby at_157) rfl k) ?_
      show own_Go _ _ _ _ (T20.setTop (mkF m 159 #[.val (.int u0), .val (.int u1), .val (.int (u0.toUInt32.toUInt16.toUInt32.toInt32)), .val (.int ((u0.toUInt32.toUInt16.toUInt32.toInt32) ||| (32 : Int32))), .val (.int b), .val (.int (1 : Int32)), .val (.ref b9), .val (.int (0 : Int32)), .val (.int (0 : Int32)), .val (.int (1 : Int32))] [(.int (1 : Int32))]))
      refine own_st (fun _ k => XS.ifNo X20.here hx rfl (hb hby at_159) rfl ((if0 _ _).trans (feq (by decide : ¬ ((1 : Int32) = (0 : Int32)))).1) k) ?_
      show own_Go _ _ _ _ (T20.setTop (mkF m 162 #[.val (.int u0), .val (.int u1), .val (.int (u0.toUInt32.toUInt16.toUInt32.toInt32)), .val (.int ((u0.toUInt32.toUInt16.toUInt32.toInt32) ||| (32 : Int32))), .val (.int b), .val (.int (1 : Int32)), .val (.ref b9), .val (.int (0 : Int32)), .val (.int (0 : Int32)), .val (.int (1 : Int32))] []))
      refine own_st (fun _ k => XS.iconst X20.here hx rfl (hb hby at_162) k) ?_
      show own_Go _ _ _ _ (T20.setTop (mkF m 163 #[.val (.int u0), .val (.int u1), .val (.int (u0.toUInt32.toUInt16.toUInt32.toInt32)), .val (.int ((u0.toUInt32.toUInt16.toUInt32.toInt32) ||| (32 : Int32))), .val (.int b), .val (.int (1 : Int32)), .val (.ref b9), .val (.int (0 : Int32)), .val (.int (0 : Int32)), .val (.int (1 : Int32))] [(.int (1 : Int32))]))
      refine own_st (fun _ k => XS.goto X20.here hx rfl (pc0 := 163) (pc' := 167) rfl (hb hby at_163) (by decide) (by decide) k) ?_
      show own_Go _ _ _ _ (T20.setTop (mkF m 167 #[.val (.int u0), .val (.int u1), .val (.int (u0.toUInt32.toUInt16.toUInt32.toInt32)), .val (.int ((u0.toUInt32.toUInt16.toUInt32.toInt32) ||| (32 : Int32))), .val (.int b), .val (.int (1 : Int32)), .val (.ref b9), .val (.int (0 : Int32)), .val (.int (0 : Int32)), .val (.int (1 : Int32))] [(.int (1 : Int32))]))
      obtain ⟨fs, hr, hrun, hended, hW, hsame⟩ := X20.leave (v := some (.int (1 : Int32))) (fun h => by rw [Bd.returns] at h; cases h)
      refine own_out (retN X20 hx (t := .boolean) Bd.returns (by simp) (hb hby at_167) hr) ⟨hrun, hended, _, _, rfl, ?_, ⟨_, rfl⟩, hW, hsame.mono (by decide) (by decide)⟩
      show Q0 Z u0 u1 h0 n0 _ T20.heap _
      exact ⟨rfl, N20⟩
    · skip
      rw [hs18]
      show own_Go _ _ _ _ (T17.setTop (mkF m 100 #[.val (.int u0), .val (.int u1), .val (.int (u0.toUInt32.toUInt16.toUInt32.toInt32)), .val (.int ((u0.toUInt32.toUInt16.toUInt32.toInt32) ||| (32 : Int32))), .val (.int b), .val (.int (1 : Int32)), .val (.ref b9), .val (.int (1 : Int32)), .unset, .unset] []))
      refine own_st (fun _ k => XS.iload X17.here hx rfl (hb hby at_100) rfl k) ?_
      show own_Go _ _ _ _ (T17.setTop (mkF m 102 #[.val (.int u0), .val (.int u1), .val (.int (u0.toUInt32.toUInt16.toUInt32.toInt32)), .val (.int ((u0.toUInt32.toUInt16.toUInt32.toInt32) ||| (32 : Int32))), .val (.int b), .val (.int (1 : Int32)), .val (.ref b9), .val (.int (1 : Int32)), .unset, .unset] [(.int (1 : Int32))]))
      refine own_st (fun _ k => XS.iconst X17.here hx rfl (hb hby at_102) k) ?_
      show own_Go _ _ _ _ (T17.setTop (mkF m 103 #[.val (.int u0), .val (.int u1), .val (.int (u0.toUInt32.toUInt16.toUInt32.toInt32)), .val (.int ((u0.toUInt32.toUInt16.toUInt32.toInt32) ||| (32 : Int32))), .val (.int b), .val (.int (1 : Int32)), .val (.ref b9), .val (.int (1 : Int32)), .unset, .unset] [(.int (1 : Int32)), (.int (1 : Int32))]))
      refine own_st (fun _ k => XS.icmpYes X17.here hx rfl (pc0 := 103) (pc' := 125) rfl (hb hby at_103) rfl (teq (by decide : ((1 : Int32) = (1 : Int32)))).1 (by decide) (by decide) k) ?_
      show own_Go _ _ _ _ (T17.setTop (mkF m 125 #[.val (.int u0), .val (.int u1), .val (.int (u0.toUInt32.toUInt16.toUInt32.toInt32)), .val (.int ((u0.toUInt32.toUInt16.toUInt32.toInt32) ||| (32 : Int32))), .val (.int b), .val (.int (1 : Int32)), .val (.ref b9), .val (.int (1 : Int32)), .unset, .unset] []))
      refine own_st (fun _ k => XS.iconst X17.here hx rfl (hb hby at_125) k) ?_
      show own_Go _ _ _ _ (T17.setTop (mkF m 126 #[.val (.int u0), .val (.int u1), .val (.int (u0.toUInt32.toUInt16.toUInt32.toInt32)), .val (.int ((u0.toUInt32.toUInt16.toUInt32.toInt32) ||| (32 : Int32))), .val (.int b), .val (.int (1 : Int32)), .val (.ref b9), .val (.int (1 : Int32)), .unset, .unset] [(.int (1 : Int32))]))
      refine own_st (fun _ k => XS.goto X17.here hx rfl (pc0 := 126) (pc' := 130) rfl (hb hby at_126) (by decide) (by decide) k) ?_
      show own_Go _ _ _ _ (T17.setTop (mkF m 130 #[.val (.int u0), .val (.int u1), .val (.int (u0.toUInt32.toUInt16.toUInt32.toInt32)), .val (.int ((u0.toUInt32.toUInt16.toUInt32.toInt32) ||| (32 : Int32))), .val (.int b), .val (.int (1 : Int32)), .val (.ref b9), .val (.int (1 : Int32)), .unset, .unset] [(.int (1 : Int32))]))
      refine own_st (fun _ k => XS.istore X17.here hx rfl (hb hby at_130) rfl (l' := #[.val (.int u0), .val (.int u1), .val (.int (u0.toUInt32.toUInt16.toUInt32.toInt32)), .val (.int ((u0.toUInt32.toUInt16.toUInt32.toInt32) ||| (32 : Int32))), .val (.int b), .val (.int (1 : Int32)), .val (.ref b9), .val (.int (1 : Int32)), .val (.int (1 : Int32)), .unset]) rfl k) ?_
      show own_Go _ _ _ _ (T17.setTop (mkF m 132 #[.val (.int u0), .val (.int u1), .val (.int (u0.toUInt32.toUInt16.toUInt32.toInt32)), .val (.int ((u0.toUInt32.toUInt16.toUInt32.toInt32) ||| (32 : Int32))), .val (.int b), .val (.int (1 : Int32)), .val (.ref b9), .val (.int (1 : Int32)), .val (.int (1 : Int32)), .unset] []))
      refine own_st (fun _ k => XS.aload X17.here hx rfl (hb hby at_132) rfl rfl k) ?_
      show own_Go _ _ _ _ (T17.setTop (mkF m 134 #[.val (.int u0), .val (.int u1), .val (.int (u0.toUInt32.toUInt16.toUInt32.toInt32)), .val (.int ((u0.toUInt32.toUInt16.toUInt32.toInt32) ||| (32 : Int32))), .val (.int b), .val (.int (1 : Int32)), .val (.ref b9), .val (.int (1 : Int32)), .val (.int (1 : Int32)), .unset] [(.ref b9)]))
      refine own_st (fun _ k => XS.iload X17.here hx rfl (hb hby at_134) rfl k) ?_
      show own_Go _ _ _ _ (T17.setTop (mkF m 136 #[.val (.int u0), .val (.int u1), .val (.int (u0.toUInt32.toUInt16.toUInt32.toInt32)), .val (.int ((u0.toUInt32.toUInt16.toUInt32.toInt32) ||| (32 : Int32))), .val (.int b), .val (.int (1 : Int32)), .val (.ref b9), .val (.int (1 : Int32)), .val (.int (1 : Int32)), .unset] [(.int (1 : Int32)), (.ref b9)]))
      obtain ⟨cl21, Ar21, -, Sz21, Nn21, Hs21, -⟩ := id V17'
      have hin21 : ¬ ((1 : Int32) < 0 ∨ cl21.slots.size ≤ ((1 : Int32)).toNatClampNeg) := inb_of Sz21 ⟨(by decide : ¬ ((1 : Int32) < (0 : Int32))), (by decide : (1 : Int32) < (8 : Int32))⟩
      have hat21 : cl21.slots[((1 : Int32)).toNatClampNeg]? = some (.int (65 : Int32)) := Hs21.at hin21 rfl
      refine own_st (X17.caload hx (j := (1 : Int32)) (v := (.int (65 : Int32))) (by rw [e17]; exact Ar21.1) (State.isArrayOf_alike hZ.alike Ar21.2.1) Ar21.2.2 hin21 hat21 (g := (mkF m 136 #[.val (.int u0), .val (.int u1), .val (.int (u0.toUInt32.toUInt16.toUInt32.toInt32)), .val (.int ((u0.toUInt32.toUInt16.toUInt32.toInt32) ||| (32 : Int32))), .val (.int b), .val (.int (1 : Int32)), .val (.ref b9), .val (.int (1 : Int32)), .val (.int (1 : Int32)), .unset] [(.int (1 : Int32)), (.ref b9)])) rfl rfl (hb hby at_136)) ?_
      show own_Go _ _ _ _ (T17.setTop (mkF m 137 #[.val (.int u0), .val (.int u1), .val (.int (u0.toUInt32.toUInt16.toUInt32.toInt32)), .val (.int ((u0.toUInt32.toUInt16.toUInt32.toInt32) ||| (32 : Int32))), .val (.int b), .val (.int (1 : Int32)), .val (.ref b9), .val (.int (1 : Int32)), .val (.int (1 : Int32)), .unset] [(.int (65 : Int32))]))
      obtain ⟨_, _, ⟨T22, L22, k22, n22⟩, -, X22, ⟨Lc22, hQ22, l22, y22, z22⟩, st22⟩ := Jvm.LawKit.callS X17 hx (y := (⟨"com/example/handler/handler/HttpSyntax", "isLetter", "(C)Z"⟩ : MethodName)) hown (mvT hZ (hw _ (List.mem_of_getElem? (i := 0) rfl))) (mvT hZ (hw _ (List.mem_of_getElem? (i := 1) rfl))) (mvT hZ (hw _ (List.mem_of_getElem? (i := 2) rfl))) (mvT hZ (hw _ (List.mem_of_getElem? (i := 3) rfl))) (by decide) (backOf (W := 0) (rm1 l Z a0 hw [] (65 : Int32) h17 n0 Z17 ) hZ (hw _ (List.mem_of_getElem? (i := 3) rfl)) (hw _ (List.mem_of_getElem? (i := 2) rfl)) (by decide) (by decide)) (g := (mkF m 137 #[.val (.int u0), .val (.int u1), .val (.int (u0.toUInt32.toUInt16.toUInt32.toInt32)), .val (.int ((u0.toUInt32.toUInt16.toUInt32.toInt32) ||| (32 : Int32))), .val (.int b), .val (.int (1 : Int32)), .val (.ref b9), .val (.int (1 : Int32)), .val (.int (1 : Int32)), .unset] [(.int (65 : Int32))])) rfl (by rw [hml]; rfl) (argsL := [(.int (65 : Int32))]) (rest := []) (lenOf own_pd0 rfl) rfl (by show 2 * 0 + _ ≤ _; exact Nat.le_of_eq rfl) (hb hby at_137) (fun _ _ => ⟨rfl, e17, (by decide : 1 + 0 ≤ _), (by decide : 8 + 0 ≤ _)⟩)
      dsimp only [Pt.U, Pt.locs, Pt.cells, Pt.slots] at X22 l22 y22 z22 st22 hQ22
      subst l22 y22 z22
      obtain ⟨rfl, Nq22, eq22⟩ := hQ22
      have N22 := Fr.app N17 Nq22
      refine own_st st22 ?_
      show own_Go _ _ _ _ (T22.setTop (mkF m 140 #[.val (.int u0), .val (.int u1), .val (.int (u0.toUInt32.toUInt16.toUInt32.toInt32)), .val (.int ((u0.toUInt32.toUInt16.toUInt32.toInt32) ||| (32 : Int32))), .val (.int b), .val (.int (1 : Int32)), .val (.ref b9), .val (.int (1 : Int32)), .val (.int (1 : Int32)), .unset] [(.int (own_il (65 : Int32)))]))
      refine own_st (fun _ k => XS.iload X22.here hx rfl (hb hby at_140) rfl k) ?_
      show own_Go _ _ _ _ (T22.setTop (mkF m 142 #[.val (.int u0), .val (.int u1), .val (.int (u0.toUInt32.toUInt16.toUInt32.toInt32)), .val (.int ((u0.toUInt32.toUInt16.toUInt32.toInt32) ||| (32 : Int32))), .val (.int b), .val (.int (1 : Int32)), .val (.ref b9), .val (.int (1 : Int32)), .val (.int (1 : Int32)), .unset] [(.int (1 : Int32)), (.int (own_il (65 : Int32)))]))
      refine own_st (fun _ k => XS.icmpNo X22.here hx rfl (hb hby at_142) rfl (teq (by decide)).2 k) ?_
      show own_Go _ _ _ _ (T22.setTop (mkF m 145 #[.val (.int u0), .val (.int u1), .val (.int (u0.toUInt32.toUInt16.toUInt32.toInt32)), .val (.int ((u0.toUInt32.toUInt16.toUInt32.toInt32) ||| (32 : Int32))), .val (.int b), .val (.int (1 : Int32)), .val (.ref b9), .val (.int (1 : Int32)), .val (.int (1 : Int32)), .unset] []))
      refine own_st (fun _ k => XS.iconst X22.here hx rfl (hb hby at_145) k) ?_
      show own_Go _ _ _ _ (T22.setTop (mkF m 146 #[.val (.int u0), .val (.int u1), .val (.int (u0.toUInt32.toUInt16.toUInt32.toInt32)), .val (.int ((u0.toUInt32.toUInt16.toUInt32.toInt32) ||| (32 : Int32))), .val (.int b), .val (.int (1 : Int32)), .val (.ref b9), .val (.int (1 : Int32)), .val (.int (1 : Int32)), .unset] [(.int (1 : Int32))]))
      refine own_st (fun _ k => XS.goto X22.here hx rfl (pc0 := 146) (pc' := 150) rfl (hb hby at_146) (by decide) (by decide) k) ?_
      show own_Go _ _ _ _ (T22.setTop (mkF m 150 #[.val (.int u0), .val (.int u1), .val (.int (u0.toUInt32.toUInt16.toUInt32.toInt32)), .val (.int ((u0.toUInt32.toUInt16.toUInt32.toInt32) ||| (32 : Int32))), .val (.int b), .val (.int (1 : Int32)), .val (.ref b9), .val (.int (1 : Int32)), .val (.int (1 : Int32)), .unset] [(.int (1 : Int32))]))
      refine own_st (fun _ k => XS.istore X22.here hx rfl (hb hby at_150) rfl (l' := #[.val (.int u0), .val (.int u1), .val (.int (u0.toUInt32.toUInt16.toUInt32.toInt32)), .val (.int ((u0.toUInt32.toUInt16.toUInt32.toInt32) ||| (32 : Int32))), .val (.int b), .val (.int (1 : Int32)), .val (.ref b9), .val (.int (1 : Int32)), .val (.int (1 : Int32)), .val (.int (1 : Int32))]) rfl k) ?_
      show own_Go _ _ _ _ (T22.setTop (mkF m 152 #[.val (.int u0), .val (.int u1), .val (.int (u0.toUInt32.toUInt16.toUInt32.toInt32)), .val (.int ((u0.toUInt32.toUInt16.toUInt32.toInt32) ||| (32 : Int32))), .val (.int b), .val (.int (1 : Int32)), .val (.ref b9), .val (.int (1 : Int32)), .val (.int (1 : Int32)), .val (.int (1 : Int32))] []))
      refine own_st (fun _ k => XS.iload X22.here hx rfl (hb hby at_152) rfl k) ?_
      show own_Go _ _ _ _ (T22.setTop (mkF m 154 #[.val (.int u0), .val (.int u1), .val (.int (u0.toUInt32.toUInt16.toUInt32.toInt32)), .val (.int ((u0.toUInt32.toUInt16.toUInt32.toInt32) ||| (32 : Int32))), .val (.int b), .val (.int (1 : Int32)), .val (.ref b9), .val (.int (1 : Int32)), .val (.int (1 : Int32)), .val (.int (1 : Int32))] [(.int (1 : Int32))]))
      refine own_st (fun _ k => XS.ifNo X22.here hx rfl (hb hby at_154) rfl ((if0 _ _).trans (feq (by decide : ¬ ((1 : Int32) = (0 : Int32)))).1) k) ?_
      show own_Go _ _ _ _ (T22.setTop (mkF m 157 #[.val (.int u0), .val (.int u1), .val (.int (u0.toUInt32.toUInt16.toUInt32.toInt32)), .val (.int ((u0.toUInt32.toUInt16.toUInt32.toInt32) ||| (32 : Int32))), .val (.int b), .val (.int (1 : Int32)), .val (.ref b9), .val (.int (1 : Int32)), .val (.int (1 : Int32)), .val (.int (1 : Int32))] []))
      refine own_st (fun _ k => XS.iload X22.here hx rfl (hb hby at_157) rfl k) ?_
      show own_Go _ _ _ _ (T22.setTop (mkF m 159 #[.val (.int u0), .val (.int u1), .val (.int (u0.toUInt32.toUInt16.toUInt32.toInt32)), .val (.int ((u0.toUInt32.toUInt16.toUInt32.toInt32) ||| (32 : Int32))), .val (.int b), .val (.int (1 : Int32)), .val (.ref b9), .val (.int (1 : Int32)), .val (.int (1 : Int32)), .val (.int (1 : Int32))] [(.int (1 : Int32))]))
      refine own_st (fun _ k => XS.ifNo X22.here hx rfl (hb hby at_159) rfl ((if0 _ _).trans (feq (by decide : ¬ ((1 : Int32) = (0 : Int32)))).1) k) ?_
      show own_Go _ _ _ _ (T22.setTop (mkF m 162 #[.val (.int u0), .val (.int u1), .val (.int (u0.toUInt32.toUInt16.toUInt32.toInt32)), .val (.int ((u0.toUInt32.toUInt16.toUInt32.toInt32) ||| (32 : Int32))), .val (.int b), .val (.int (1 : Int32)), .val (.ref b9), .val (.int (1 : Int32)), .val (.int (1 : Int32)), .val (.int (1 : Int32))] []))
      refine own_st (fun _ k => XS.iconst X22.here hx rfl (hb hby at_162) k) ?_
      show own_Go _ _ _ _ (T22.setTop (mkF m 163 #[.val (.int u0), .val (.int u1), .val (.int (u0.toUInt32.toUInt16.toUInt32.toInt32)), .val (.int ((u0.toUInt32.toUInt16.toUInt32.toInt32) ||| (32 : Int32))), .val (.int b), .val (.int (1 : Int32)), .val (.ref b9), .val (.int (1 : Int32)), .val (.int (1 : Int32)), .val (.int (1 : Int32))] [(.int (1 : Int32))]))
      refine own_st (fun _ k => XS.goto X22.here hx rfl (pc0 := 163) (pc' := 167) rfl (hb hby at_163) (by decide) (by decide) k) ?_
      show own_Go _ _ _ _ (T22.setTop (mkF m 167 #[.val (.int u0), .val (.int u1), .val (.int (u0.toUInt32.toUInt16.toUInt32.toInt32)), .val (.int ((u0.toUInt32.toUInt16.toUInt32.toInt32) ||| (32 : Int32))), .val (.int b), .val (.int (1 : Int32)), .val (.ref b9), .val (.int (1 : Int32)), .val (.int (1 : Int32)), .val (.int (1 : Int32))] [(.int (1 : Int32))]))
      obtain ⟨fs, hr, hrun, hended, hW, hsame⟩ := X22.leave (v := some (.int (1 : Int32))) (fun h => by rw [Bd.returns] at h; cases h)
      refine own_out (retN X22 hx (t := .boolean) Bd.returns (by simp) (hb hby at_167) hr) ⟨hrun, hended, _, _, rfl, ?_, ⟨_, rfl⟩, hW, hsame.mono (by decide) (by decide)⟩
      show Q0 Z u0 u1 h0 n0 _ T22.heap _
      exact ⟨rfl, N22⟩
    · skip
      rw [hs18]
      show own_Go _ _ _ _ (T17.setTop (mkF m 100 #[.val (.int u0), .val (.int u1), .val (.int (u0.toUInt32.toUInt16.toUInt32.toInt32)), .val (.int ((u0.toUInt32.toUInt16.toUInt32.toInt32) ||| (32 : Int32))), .val (.int b), .val (.int (1 : Int32)), .val (.ref b9), .val (.int (2 : Int32)), .unset, .unset] []))
      refine own_st (fun _ k => XS.iload X17.here hx rfl (hb hby at_100) rfl k) ?_
      show own_Go _ _ _ _ (T17.setTop (mkF m 102 #[.val (.int u0), .val (.int u1), .val (.int (u0.toUInt32.toUInt16.toUInt32.toInt32)), .val (.int ((u0.toUInt32.toUInt16.toUInt32.toInt32) ||| (32 : Int32))), .val (.int b), .val (.int (1 : Int32)), .val (.ref b9), .val (.int (2 : Int32)), .unset, .unset] [(.int (2 : Int32))]))
      refine own_st (fun _ k => XS.iconst X17.here hx rfl (hb hby at_102) k) ?_
      show own_Go _ _ _ _ (T17.setTop (mkF m 103 #[.val (.int u0), .val (.int u1), .val (.int (u0.toUInt32.toUInt16.toUInt32.toInt32)), .val (.int ((u0.toUInt32.toUInt16.toUInt32.toInt32) ||| (32 : Int32))), .val (.int b), .val (.int (1 : Int32)), .val (.ref b9), .val (.int (2 : Int32)), .unset, .unset] [(.int (1 : Int32)), (.int (2 : Int32))]))
      refine own_st (fun _ k => XS.icmpNo X17.here hx rfl (hb hby at_103) rfl (feq (by decide : ¬ ((2 : Int32) = (1 : Int32)))).1 k) ?_
      show own_Go _ _ _ _ (T17.setTop (mkF m 106 #[.val (.int u0), .val (.int u1), .val (.int (u0.toUInt32.toUInt16.toUInt32.toInt32)), .val (.int ((u0.toUInt32.toUInt16.toUInt32.toInt32) ||| (32 : Int32))), .val (.int b), .val (.int (1 : Int32)), .val (.ref b9), .val (.int (2 : Int32)), .unset, .unset] []))
      refine own_st (fun _ k => XS.iload X17.here hx rfl (hb hby at_106) rfl k) ?_
      show own_Go _ _ _ _ (T17.setTop (mkF m 108 #[.val (.int u0), .val (.int u1), .val (.int (u0.toUInt32.toUInt16.toUInt32.toInt32)), .val (.int ((u0.toUInt32.toUInt16.toUInt32.toInt32) ||| (32 : Int32))), .val (.int b), .val (.int (1 : Int32)), .val (.ref b9), .val (.int (2 : Int32)), .unset, .unset] [(.int (2 : Int32))]))
      refine own_st (fun _ k => XS.iconst X17.here hx rfl (hb hby at_108) k) ?_
      show own_Go _ _ _ _ (T17.setTop (mkF m 109 #[.val (.int u0), .val (.int u1), .val (.int (u0.toUInt32.toUInt16.toUInt32.toInt32)), .val (.int ((u0.toUInt32.toUInt16.toUInt32.toInt32) ||| (32 : Int32))), .val (.int b), .val (.int (1 : Int32)), .val (.ref b9), .val (.int (2 : Int32)), .unset, .unset] [(.int (2 : Int32)), (.int (2 : Int32))]))
      refine own_st (fun _ k => XS.icmpYes X17.here hx rfl (pc0 := 109) (pc' := 125) rfl (hb hby at_109) rfl (teq (by decide : ((2 : Int32) = (2 : Int32)))).1 (by decide) (by decide) k) ?_
      show own_Go _ _ _ _ (T17.setTop (mkF m 125 #[.val (.int u0), .val (.int u1), .val (.int (u0.toUInt32.toUInt16.toUInt32.toInt32)), .val (.int ((u0.toUInt32.toUInt16.toUInt32.toInt32) ||| (32 : Int32))), .val (.int b), .val (.int (1 : Int32)), .val (.ref b9), .val (.int (2 : Int32)), .unset, .unset] []))
      refine own_st (fun _ k => XS.iconst X17.here hx rfl (hb hby at_125) k) ?_
      show own_Go _ _ _ _ (T17.setTop (mkF m 126 #[.val (.int u0), .val (.int u1), .val (.int (u0.toUInt32.toUInt16.toUInt32.toInt32)), .val (.int ((u0.toUInt32.toUInt16.toUInt32.toInt32) ||| (32 : Int32))), .val (.int b), .val (.int (1 : Int32)), .val (.ref b9), .val (.int (2 : Int32)), .unset, .unset] [(.int (1 : Int32))]))
      refine own_st (fun _ k => XS.goto X17.here hx rfl (pc0 := 126) (pc' := 130) rfl (hb hby at_126) (by decide) (by decide) k) ?_
      show own_Go _ _ _ _ (T17.setTop (mkF m 130 #[.val (.int u0), .val (.int u1), .val (.int (u0.toUInt32.toUInt16.toUInt32.toInt32)), .val (.int ((u0.toUInt32.toUInt16.toUInt32.toInt32) ||| (32 : Int32))), .val (.int b), .val (.int (1 : Int32)), .val (.ref b9), .val (.int (2 : Int32)), .unset, .unset] [(.int (1 : Int32))]))
      refine own_st (fun _ k => XS.istore X17.here hx rfl (hb hby at_130) rfl (l' := #[.val (.int u0), .val (.int u1), .val (.int (u0.toUInt32.toUInt16.toUInt32.toInt32)), .val (.int ((u0.toUInt32.toUInt16.toUInt32.toInt32) ||| (32 : Int32))), .val (.int b), .val (.int (1 : Int32)), .val (.ref b9), .val (.int (2 : Int32)), .val (.int (1 : Int32)), .unset]) rfl k) ?_
      show own_Go _ _ _ _ (T17.setTop (mkF m 132 #[.val (.int u0), .val (.int u1), .val (.int (u0.toUInt32.toUInt16.toUInt32.toInt32)), .val (.int ((u0.toUInt32.toUInt16.toUInt32.toInt32) ||| (32 : Int32))), .val (.int b), .val (.int (1 : Int32)), .val (.ref b9), .val (.int (2 : Int32)), .val (.int (1 : Int32)), .unset] []))
      refine own_st (fun _ k => XS.aload X17.here hx rfl (hb hby at_132) rfl rfl k) ?_
      show own_Go _ _ _ _ (T17.setTop (mkF m 134 #[.val (.int u0), .val (.int u1), .val (.int (u0.toUInt32.toUInt16.toUInt32.toInt32)), .val (.int ((u0.toUInt32.toUInt16.toUInt32.toInt32) ||| (32 : Int32))), .val (.int b), .val (.int (1 : Int32)), .val (.ref b9), .val (.int (2 : Int32)), .val (.int (1 : Int32)), .unset] [(.ref b9)]))
      refine own_st (fun _ k => XS.iload X17.here hx rfl (hb hby at_134) rfl k) ?_
      show own_Go _ _ _ _ (T17.setTop (mkF m 136 #[.val (.int u0), .val (.int u1), .val (.int (u0.toUInt32.toUInt16.toUInt32.toInt32)), .val (.int ((u0.toUInt32.toUInt16.toUInt32.toInt32) ||| (32 : Int32))), .val (.int b), .val (.int (1 : Int32)), .val (.ref b9), .val (.int (2 : Int32)), .val (.int (1 : Int32)), .unset] [(.int (2 : Int32)), (.ref b9)]))
      obtain ⟨cl23, Ar23, -, Sz23, Nn23, Hs23, -⟩ := id V17'
      have hin23 : ¬ ((2 : Int32) < 0 ∨ cl23.slots.size ≤ ((2 : Int32)).toNatClampNeg) := inb_of Sz23 ⟨(by decide : ¬ ((2 : Int32) < (0 : Int32))), (by decide : (2 : Int32) < (8 : Int32))⟩
      have hat23 : cl23.slots[((2 : Int32)).toNatClampNeg]? = some (.int (90 : Int32)) := Hs23.at hin23 rfl
      refine own_st (X17.caload hx (j := (2 : Int32)) (v := (.int (90 : Int32))) (by rw [e17]; exact Ar23.1) (State.isArrayOf_alike hZ.alike Ar23.2.1) Ar23.2.2 hin23 hat23 (g := (mkF m 136 #[.val (.int u0), .val (.int u1), .val (.int (u0.toUInt32.toUInt16.toUInt32.toInt32)), .val (.int ((u0.toUInt32.toUInt16.toUInt32.toInt32) ||| (32 : Int32))), .val (.int b), .val (.int (1 : Int32)), .val (.ref b9), .val (.int (2 : Int32)), .val (.int (1 : Int32)), .unset] [(.int (2 : Int32)), (.ref b9)])) rfl rfl (hb hby at_136)) ?_
      show own_Go _ _ _ _ (T17.setTop (mkF m 137 #[.val (.int u0), .val (.int u1), .val (.int (u0.toUInt32.toUInt16.toUInt32.toInt32)), .val (.int ((u0.toUInt32.toUInt16.toUInt32.toInt32) ||| (32 : Int32))), .val (.int b), .val (.int (1 : Int32)), .val (.ref b9), .val (.int (2 : Int32)), .val (.int (1 : Int32)), .unset] [(.int (90 : Int32))]))
      obtain ⟨_, _, ⟨T24, L24, k24, n24⟩, -, X24, ⟨Lc24, hQ24, l24, y24, z24⟩, st24⟩ := Jvm.LawKit.callS X17 hx (y := (⟨"com/example/handler/handler/HttpSyntax", "isLetter", "(C)Z"⟩ : MethodName)) hown (mvT hZ (hw _ (List.mem_of_getElem? (i := 0) rfl))) (mvT hZ (hw _ (List.mem_of_getElem? (i := 1) rfl))) (mvT hZ (hw _ (List.mem_of_getElem? (i := 2) rfl))) (mvT hZ (hw _ (List.mem_of_getElem? (i := 3) rfl))) (by decide) (backOf (W := 0) (rm1 l Z a0 hw [] (90 : Int32) h17 n0 Z17 ) hZ (hw _ (List.mem_of_getElem? (i := 3) rfl)) (hw _ (List.mem_of_getElem? (i := 2) rfl)) (by decide) (by decide)) (g := (mkF m 137 #[.val (.int u0), .val (.int u1), .val (.int (u0.toUInt32.toUInt16.toUInt32.toInt32)), .val (.int ((u0.toUInt32.toUInt16.toUInt32.toInt32) ||| (32 : Int32))), .val (.int b), .val (.int (1 : Int32)), .val (.ref b9), .val (.int (2 : Int32)), .val (.int (1 : Int32)), .unset] [(.int (90 : Int32))])) rfl (by rw [hml]; rfl) (argsL := [(.int (90 : Int32))]) (rest := []) (lenOf own_pd0 rfl) rfl (by show 2 * 0 + _ ≤ _; exact Nat.le_of_eq rfl) (hb hby at_137) (fun _ _ => ⟨rfl, e17, (by decide : 1 + 0 ≤ _), (by decide : 8 + 0 ≤ _)⟩)
      dsimp only [Pt.U, Pt.locs, Pt.cells, Pt.slots] at X24 l24 y24 z24 st24 hQ24
      subst l24 y24 z24
      obtain ⟨rfl, Nq24, eq24⟩ := hQ24
      have N24 := Fr.app N17 Nq24
      refine own_st st24 ?_
      show own_Go _ _ _ _ (T24.setTop (mkF m 140 #[.val (.int u0), .val (.int u1), .val (.int (u0.toUInt32.toUInt16.toUInt32.toInt32)), .val (.int ((u0.toUInt32.toUInt16.toUInt32.toInt32) ||| (32 : Int32))), .val (.int b), .val (.int (1 : Int32)), .val (.ref b9), .val (.int (2 : Int32)), .val (.int (1 : Int32)), .unset] [(.int (own_il (90 : Int32)))]))
      refine own_st (fun _ k => XS.iload X24.here hx rfl (hb hby at_140) rfl k) ?_
      show own_Go _ _ _ _ (T24.setTop (mkF m 142 #[.val (.int u0), .val (.int u1), .val (.int (u0.toUInt32.toUInt16.toUInt32.toInt32)), .val (.int ((u0.toUInt32.toUInt16.toUInt32.toInt32) ||| (32 : Int32))), .val (.int b), .val (.int (1 : Int32)), .val (.ref b9), .val (.int (2 : Int32)), .val (.int (1 : Int32)), .unset] [(.int (1 : Int32)), (.int (own_il (90 : Int32)))]))
      refine own_st (fun _ k => XS.icmpNo X24.here hx rfl (hb hby at_142) rfl (teq (by decide)).2 k) ?_
      show own_Go _ _ _ _ (T24.setTop (mkF m 145 #[.val (.int u0), .val (.int u1), .val (.int (u0.toUInt32.toUInt16.toUInt32.toInt32)), .val (.int ((u0.toUInt32.toUInt16.toUInt32.toInt32) ||| (32 : Int32))), .val (.int b), .val (.int (1 : Int32)), .val (.ref b9), .val (.int (2 : Int32)), .val (.int (1 : Int32)), .unset] []))
      refine own_st (fun _ k => XS.iconst X24.here hx rfl (hb hby at_145) k) ?_
      show own_Go _ _ _ _ (T24.setTop (mkF m 146 #[.val (.int u0), .val (.int u1), .val (.int (u0.toUInt32.toUInt16.toUInt32.toInt32)), .val (.int ((u0.toUInt32.toUInt16.toUInt32.toInt32) ||| (32 : Int32))), .val (.int b), .val (.int (1 : Int32)), .val (.ref b9), .val (.int (2 : Int32)), .val (.int (1 : Int32)), .unset] [(.int (1 : Int32))]))
      refine own_st (fun _ k => XS.goto X24.here hx rfl (pc0 := 146) (pc' := 150) rfl (hb hby at_146) (by decide) (by decide) k) ?_
      show own_Go _ _ _ _ (T24.setTop (mkF m 150 #[.val (.int u0), .val (.int u1), .val (.int (u0.toUInt32.toUInt16.toUInt32.toInt32)), .val (.int ((u0.toUInt32.toUInt16.toUInt32.toInt32) ||| (32 : Int32))), .val (.int b), .val (.int (1 : Int32)), .val (.ref b9), .val (.int (2 : Int32)), .val (.int (1 : Int32)), .unset] [(.int (1 : Int32))]))
      refine own_st (fun _ k => XS.istore X24.here hx rfl (hb hby at_150) rfl (l' := #[.val (.int u0), .val (.int u1), .val (.int (u0.toUInt32.toUInt16.toUInt32.toInt32)), .val (.int ((u0.toUInt32.toUInt16.toUInt32.toInt32) ||| (32 : Int32))), .val (.int b), .val (.int (1 : Int32)), .val (.ref b9), .val (.int (2 : Int32)), .val (.int (1 : Int32)), .val (.int (1 : Int32))]) rfl k) ?_
      show own_Go _ _ _ _ (T24.setTop (mkF m 152 #[.val (.int u0), .val (.int u1), .val (.int (u0.toUInt32.toUInt16.toUInt32.toInt32)), .val (.int ((u0.toUInt32.toUInt16.toUInt32.toInt32) ||| (32 : Int32))), .val (.int b), .val (.int (1 : Int32)), .val (.ref b9), .val (.int (2 : Int32)), .val (.int (1 : Int32)), .val (.int (1 : Int32))] []))
      refine own_st (fun _ k => XS.iload X24.here hx rfl (hb hby at_152) rfl k) ?_
      show own_Go _ _ _ _ (T24.setTop (mkF m 154 #[.val (.int u0), .val (.int u1), .val (.int (u0.toUInt32.toUInt16.toUInt32.toInt32)), .val (.int ((u0.toUInt32.toUInt16.toUInt32.toInt32) ||| (32 : Int32))), .val (.int b), .val (.int (1 : Int32)), .val (.ref b9), .val (.int (2 : Int32)), .val (.int (1 : Int32)), .val (.int (1 : Int32))] [(.int (1 : Int32))]))
      refine own_st (fun _ k => XS.ifNo X24.here hx rfl (hb hby at_154) rfl ((if0 _ _).trans (feq (by decide : ¬ ((1 : Int32) = (0 : Int32)))).1) k) ?_
      show own_Go _ _ _ _ (T24.setTop (mkF m 157 #[.val (.int u0), .val (.int u1), .val (.int (u0.toUInt32.toUInt16.toUInt32.toInt32)), .val (.int ((u0.toUInt32.toUInt16.toUInt32.toInt32) ||| (32 : Int32))), .val (.int b), .val (.int (1 : Int32)), .val (.ref b9), .val (.int (2 : Int32)), .val (.int (1 : Int32)), .val (.int (1 : Int32))] []))
      refine own_st (fun _ k => XS.iload X24.here hx rfl (hb hby at_157) rfl k) ?_
      show own_Go _ _ _ _ (T24.setTop (mkF m 159 #[.val (.int u0), .val (.int u1), .val (.int (u0.toUInt32.toUInt16.toUInt32.toInt32)), .val (.int ((u0.toUInt32.toUInt16.toUInt32.toInt32) ||| (32 : Int32))), .val (.int b), .val (.int (1 : Int32)), .val (.ref b9), .val (.int (2 : Int32)), .val (.int (1 : Int32)), .val (.int (1 : Int32))] [(.int (1 : Int32))]))
      refine own_st (fun _ k => XS.ifNo X24.here hx rfl (hb hby at_159) rfl ((if0 _ _).trans (feq (by decide : ¬ ((1 : Int32) = (0 : Int32)))).1) k) ?_
      show own_Go _ _ _ _ (T24.setTop (mkF m 162 #[.val (.int u0), .val (.int u1), .val (.int (u0.toUInt32.toUInt16.toUInt32.toInt32)), .val (.int ((u0.toUInt32.toUInt16.toUInt32.toInt32) ||| (32 : Int32))), .val (.int b), .val (.int (1 : Int32)), .val (.ref b9), .val (.int (2 : Int32)), .val (.int (1 : Int32)), .val (.int (1 : Int32))] []))
      refine own_st (fun _ k => XS.iconst X24.here hx rfl (hb hby at_162) k) ?_
      show own_Go _ _ _ _ (T24.setTop (mkF m 163 #[.val (.int u0), .val (.int u1), .val (.int (u0.toUInt32.toUInt16.toUInt32.toInt32)), .val (.int ((u0.toUInt32.toUInt16.toUInt32.toInt32) ||| (32 : Int32))), .val (.int b), .val (.int (1 : Int32)), .val (.ref b9), .val (.int (2 : Int32)), .val (.int (1 : Int32)), .val (.int (1 : Int32))] [(.int (1 : Int32))]))
      refine own_st (fun _ k => XS.goto X24.here hx rfl (pc0 := 163) (pc' := 167) rfl (hb hby at_163) (by decide) (by decide) k) ?_
      show own_Go _ _ _ _ (T24.setTop (mkF m 167 #[.val (.int u0), .val (.int u1), .val (.int (u0.toUInt32.toUInt16.toUInt32.toInt32)), .val (.int ((u0.toUInt32.toUInt16.toUInt32.toInt32) ||| (32 : Int32))), .val (.int b), .val (.int (1 : Int32)), .val (.ref b9), .val (.int (2 : Int32)), .val (.int (1 : Int32)), .val (.int (1 : Int32))] [(.int (1 : Int32))]))
      obtain ⟨fs, hr, hrun, hended, hW, hsame⟩ := X24.leave (v := some (.int (1 : Int32))) (fun h => by rw [Bd.returns] at h; cases h)
      refine own_out (retN X24 hx (t := .boolean) Bd.returns (by simp) (hb hby at_167) hr) ⟨hrun, hended, _, _, rfl, ?_, ⟨_, rfl⟩, hW, hsame.mono (by decide) (by decide)⟩
      show Q0 Z u0 u1 h0 n0 _ T24.heap _
      exact ⟨rfl, N24⟩
    · skip
      rw [hs18]
      show own_Go _ _ _ _ (T17.setTop (mkF m 100 #[.val (.int u0), .val (.int u1), .val (.int (u0.toUInt32.toUInt16.toUInt32.toInt32)), .val (.int ((u0.toUInt32.toUInt16.toUInt32.toInt32) ||| (32 : Int32))), .val (.int b), .val (.int (1 : Int32)), .val (.ref b9), .val (.int (3 : Int32)), .unset, .unset] []))
      refine own_st (fun _ k => XS.iload X17.here hx rfl (hb hby at_100) rfl k) ?_
      show own_Go _ _ _ _ (T17.setTop (mkF m 102 #[.val (.int u0), .val (.int u1), .val (.int (u0.toUInt32.toUInt16.toUInt32.toInt32)), .val (.int ((u0.toUInt32.toUInt16.toUInt32.toInt32) ||| (32 : Int32))), .val (.int b), .val (.int (1 : Int32)), .val (.ref b9), .val (.int (3 : Int32)), .unset, .unset] [(.int (3 : Int32))]))
      refine own_st (fun _ k => XS.iconst X17.here hx rfl (hb hby at_102) k) ?_
      show own_Go _ _ _ _ (T17.setTop (mkF m 103 #[.val (.int u0), .val (.int u1), .val (.int (u0.toUInt32.toUInt16.toUInt32.toInt32)), .val (.int ((u0.toUInt32.toUInt16.toUInt32.toInt32) ||| (32 : Int32))), .val (.int b), .val (.int (1 : Int32)), .val (.ref b9), .val (.int (3 : Int32)), .unset, .unset] [(.int (1 : Int32)), (.int (3 : Int32))]))
      refine own_st (fun _ k => XS.icmpNo X17.here hx rfl (hb hby at_103) rfl (feq (by decide : ¬ ((3 : Int32) = (1 : Int32)))).1 k) ?_
      show own_Go _ _ _ _ (T17.setTop (mkF m 106 #[.val (.int u0), .val (.int u1), .val (.int (u0.toUInt32.toUInt16.toUInt32.toInt32)), .val (.int ((u0.toUInt32.toUInt16.toUInt32.toInt32) ||| (32 : Int32))), .val (.int b), .val (.int (1 : Int32)), .val (.ref b9), .val (.int (3 : Int32)), .unset, .unset] []))
      refine own_st (fun _ k => XS.iload X17.here hx rfl (hb hby at_106) rfl k) ?_
      show own_Go _ _ _ _ (T17.setTop (mkF m 108 #[.val (.int u0), .val (.int u1), .val (.int (u0.toUInt32.toUInt16.toUInt32.toInt32)), .val (.int ((u0.toUInt32.toUInt16.toUInt32.toInt32) ||| (32 : Int32))), .val (.int b), .val (.int (1 : Int32)), .val (.ref b9), .val (.int (3 : Int32)), .unset, .unset] [(.int (3 : Int32))]))
      refine own_st (fun _ k => XS.iconst X17.here hx rfl (hb hby at_108) k) ?_
      show own_Go _ _ _ _ (T17.setTop (mkF m 109 #[.val (.int u0), .val (.int u1), .val (.int (u0.toUInt32.toUInt16.toUInt32.toInt32)), .val (.int ((u0.toUInt32.toUInt16.toUInt32.toInt32) ||| (32 : Int32))), .val (.int b), .val (.int (1 : Int32)), .val (.ref b9), .val (.int (3 : Int32)), .unset, .unset] [(.int (2 : Int32)), (.int (3 : Int32))]))
      refine own_st (fun _ k => XS.icmpNo X17.here hx rfl (hb hby at_109) rfl (feq (by decide : ¬ ((3 : Int32) = (2 : Int32)))).1 k) ?_
      show own_Go _ _ _ _ (T17.setTop (mkF m 112 #[.val (.int u0), .val (.int u1), .val (.int (u0.toUInt32.toUInt16.toUInt32.toInt32)), .val (.int ((u0.toUInt32.toUInt16.toUInt32.toInt32) ||| (32 : Int32))), .val (.int b), .val (.int (1 : Int32)), .val (.ref b9), .val (.int (3 : Int32)), .unset, .unset] []))
      refine own_st (fun _ k => XS.iload X17.here hx rfl (hb hby at_112) rfl k) ?_
      show own_Go _ _ _ _ (T17.setTop (mkF m 114 #[.val (.int u0), .val (.int u1), .val (.int (u0.toUInt32.toUInt16.toUInt32.toInt32)), .val (.int ((u0.toUInt32.toUInt16.toUInt32.toInt32) ||| (32 : Int32))), .val (.int b), .val (.int (1 : Int32)), .val (.ref b9), .val (.int (3 : Int32)), .unset, .unset] [(.int (3 : Int32))]))
      refine own_st (fun _ k => XS.iconst X17.here hx rfl (hb hby at_114) k) ?_
      show own_Go _ _ _ _ (T17.setTop (mkF m 115 #[.val (.int u0), .val (.int u1), .val (.int (u0.toUInt32.toUInt16.toUInt32.toInt32)), .val (.int ((u0.toUInt32.toUInt16.toUInt32.toInt32) ||| (32 : Int32))), .val (.int b), .val (.int (1 : Int32)), .val (.ref b9), .val (.int (3 : Int32)), .unset, .unset] [(.int (5 : Int32)), (.int (3 : Int32))]))
      refine own_st (fun _ k => XS.icmpNo X17.here hx rfl (hb hby at_115) rfl (feq (by decide : ¬ ((3 : Int32) = (5 : Int32)))).1 k) ?_
      show own_Go _ _ _ _ (T17.setTop (mkF m 118 #[.val (.int u0), .val (.int u1), .val (.int (u0.toUInt32.toUInt16.toUInt32.toInt32)), .val (.int ((u0.toUInt32.toUInt16.toUInt32.toInt32) ||| (32 : Int32))), .val (.int b), .val (.int (1 : Int32)), .val (.ref b9), .val (.int (3 : Int32)), .unset, .unset] []))
      refine own_st (fun _ k => XS.iload X17.here hx rfl (hb hby at_118) rfl k) ?_
      show own_Go _ _ _ _ (T17.setTop (mkF m 120 #[.val (.int u0), .val (.int u1), .val (.int (u0.toUInt32.toUInt16.toUInt32.toInt32)), .val (.int ((u0.toUInt32.toUInt16.toUInt32.toInt32) ||| (32 : Int32))), .val (.int b), .val (.int (1 : Int32)), .val (.ref b9), .val (.int (3 : Int32)), .unset, .unset] [(.int (3 : Int32))]))
      refine own_st (fun _ k => XS.bipush X17.here hx rfl (hb hby at_120) k) ?_
      show own_Go _ _ _ _ (T17.setTop (mkF m 122 #[.val (.int u0), .val (.int u1), .val (.int (u0.toUInt32.toUInt16.toUInt32.toInt32)), .val (.int ((u0.toUInt32.toUInt16.toUInt32.toInt32) ||| (32 : Int32))), .val (.int b), .val (.int (1 : Int32)), .val (.ref b9), .val (.int (3 : Int32)), .unset, .unset] [(.int (6 : Int32)), (.int (3 : Int32))]))
      refine own_st (fun _ k => XS.icmpYes X17.here hx rfl (pc0 := 122) (pc' := 129) rfl (hb hby at_122) rfl (feq (by decide : ¬ ((3 : Int32) = (6 : Int32)))).2 (by decide) (by decide) k) ?_
      show own_Go _ _ _ _ (T17.setTop (mkF m 129 #[.val (.int u0), .val (.int u1), .val (.int (u0.toUInt32.toUInt16.toUInt32.toInt32)), .val (.int ((u0.toUInt32.toUInt16.toUInt32.toInt32) ||| (32 : Int32))), .val (.int b), .val (.int (1 : Int32)), .val (.ref b9), .val (.int (3 : Int32)), .unset, .unset] []))
      refine own_st (fun _ k => XS.iconst X17.here hx rfl (hb hby at_129) k) ?_
      show own_Go _ _ _ _ (T17.setTop (mkF m 130 #[.val (.int u0), .val (.int u1), .val (.int (u0.toUInt32.toUInt16.toUInt32.toInt32)), .val (.int ((u0.toUInt32.toUInt16.toUInt32.toInt32) ||| (32 : Int32))), .val (.int b), .val (.int (1 : Int32)), .val (.ref b9), .val (.int (3 : Int32)), .unset, .unset] [(.int (0 : Int32))]))
      refine own_st (fun _ k => XS.istore X17.here hx rfl (hb hby at_130) rfl (l' := #[.val (.int u0), .val (.int u1), .val (.int (u0.toUInt32.toUInt16.toUInt32.toInt32)), .val (.int ((u0.toUInt32.toUInt16.toUInt32.toInt32) ||| (32 : Int32))), .val (.int b), .val (.int (1 : Int32)), .val (.ref b9), .val (.int (3 : Int32)), .val (.int (0 : Int32)), .unset]) rfl k) ?_
      show own_Go _ _ _ _ (T17.setTop (mkF m 132 #[.val (.int u0), .val (.int u1), .val (.int (u0.toUInt32.toUInt16.toUInt32.toInt32)), .val (.int ((u0.toUInt32.toUInt16.toUInt32.toInt32) ||| (32 : Int32))), .val (.int b), .val (.int (1 : Int32)), .val (.ref b9), .val (.int (3 : Int32)), .val (.int (0 : Int32)), .unset] []))
      refine own_st (fun _ k => XS.aload X17.here hx rfl (hb hby at_132) rfl rfl k) ?_
      show own_Go _ _ _ _ (T17.setTop (mkF m 134 #[.val (.int u0), .val (.int u1), .val (.int (u0.toUInt32.toUInt16.toUInt32.toInt32)), .val (.int ((u0.toUInt32.toUInt16.toUInt32.toInt32) ||| (32 : Int32))), .val (.int b), .val (.int (1 : Int32)), .val (.ref b9), .val (.int (3 : Int32)), .val (.int (0 : Int32)), .unset] [(.ref b9)]))
      refine own_st (fun _ k => XS.iload X17.here hx rfl (hb hby at_134) rfl k) ?_
      show own_Go _ _ _ _ (T17.setTop (mkF m 136 #[.val (.int u0), .val (.int u1), .val (.int (u0.toUInt32.toUInt16.toUInt32.toInt32)), .val (.int ((u0.toUInt32.toUInt16.toUInt32.toInt32) ||| (32 : Int32))), .val (.int b), .val (.int (1 : Int32)), .val (.ref b9), .val (.int (3 : Int32)), .val (.int (0 : Int32)), .unset] [(.int (3 : Int32)), (.ref b9)]))
      obtain ⟨cl25, Ar25, -, Sz25, Nn25, Hs25, -⟩ := id V17'
      have hin25 : ¬ ((3 : Int32) < 0 ∨ cl25.slots.size ≤ ((3 : Int32)).toNatClampNeg) := inb_of Sz25 ⟨(by decide : ¬ ((3 : Int32) < (0 : Int32))), (by decide : (3 : Int32) < (8 : Int32))⟩
      have hat25 : cl25.slots[((3 : Int32)).toNatClampNeg]? = some (.int (91 : Int32)) := Hs25.at hin25 rfl
      refine own_st (X17.caload hx (j := (3 : Int32)) (v := (.int (91 : Int32))) (by rw [e17]; exact Ar25.1) (State.isArrayOf_alike hZ.alike Ar25.2.1) Ar25.2.2 hin25 hat25 (g := (mkF m 136 #[.val (.int u0), .val (.int u1), .val (.int (u0.toUInt32.toUInt16.toUInt32.toInt32)), .val (.int ((u0.toUInt32.toUInt16.toUInt32.toInt32) ||| (32 : Int32))), .val (.int b), .val (.int (1 : Int32)), .val (.ref b9), .val (.int (3 : Int32)), .val (.int (0 : Int32)), .unset] [(.int (3 : Int32)), (.ref b9)])) rfl rfl (hb hby at_136)) ?_
      show own_Go _ _ _ _ (T17.setTop (mkF m 137 #[.val (.int u0), .val (.int u1), .val (.int (u0.toUInt32.toUInt16.toUInt32.toInt32)), .val (.int ((u0.toUInt32.toUInt16.toUInt32.toInt32) ||| (32 : Int32))), .val (.int b), .val (.int (1 : Int32)), .val (.ref b9), .val (.int (3 : Int32)), .val (.int (0 : Int32)), .unset] [(.int (91 : Int32))]))
      obtain ⟨_, _, ⟨T26, L26, k26, n26⟩, -, X26, ⟨Lc26, hQ26, l26, y26, z26⟩, st26⟩ := Jvm.LawKit.callS X17 hx (y := (⟨"com/example/handler/handler/HttpSyntax", "isLetter", "(C)Z"⟩ : MethodName)) hown (mvT hZ (hw _ (List.mem_of_getElem? (i := 0) rfl))) (mvT hZ (hw _ (List.mem_of_getElem? (i := 1) rfl))) (mvT hZ (hw _ (List.mem_of_getElem? (i := 2) rfl))) (mvT hZ (hw _ (List.mem_of_getElem? (i := 3) rfl))) (by decide) (backOf (W := 0) (rm1 l Z a0 hw [] (91 : Int32) h17 n0 Z17 ) hZ (hw _ (List.mem_of_getElem? (i := 3) rfl)) (hw _ (List.mem_of_getElem? (i := 2) rfl)) (by decide) (by decide)) (g := (mkF m 137 #[.val (.int u0), .val (.int u1), .val (.int (u0.toUInt32.toUInt16.toUInt32.toInt32)), .val (.int ((u0.toUInt32.toUInt16.toUInt32.toInt32) ||| (32 : Int32))), .val (.int b), .val (.int (1 : Int32)), .val (.ref b9), .val (.int (3 : Int32)), .val (.int (0 : Int32)), .unset] [(.int (91 : Int32))])) rfl (by rw [hml]; rfl) (argsL := [(.int (91 : Int32))]) (rest := []) (lenOf own_pd0 rfl) rfl (by show 2 * 0 + _ ≤ _; exact Nat.le_of_eq rfl) (hb hby at_137) (fun _ _ => ⟨rfl, e17, (by decide : 1 + 0 ≤ _), (by decide : 8 + 0 ≤ _)⟩)
      dsimp only [Pt.U, Pt.locs, Pt.cells, Pt.slots] at X26 l26 y26 z26 st26 hQ26
      subst l26 y26 z26
      obtain ⟨rfl, Nq26, eq26⟩ := hQ26
      have N26 := Fr.app N17 Nq26
      refine own_st st26 ?_
      show own_Go _ _ _ _ (T26.setTop (mkF m 140 #[.val (.int u0), .val (.int u1), .val (.int (u0.toUInt32.toUInt16.toUInt32.toInt32)), .val (.int ((u0.toUInt32.toUInt16.toUInt32.toInt32) ||| (32 : Int32))), .val (.int b), .val (.int (1 : Int32)), .val (.ref b9), .val (.int (3 : Int32)), .val (.int (0 : Int32)), .unset] [(.int (own_il (91 : Int32)))]))
      refine own_st (fun _ k => XS.iload X26.here hx rfl (hb hby at_140) rfl k) ?_
      show own_Go _ _ _ _ (T26.setTop (mkF m 142 #[.val (.int u0), .val (.int u1), .val (.int (u0.toUInt32.toUInt16.toUInt32.toInt32)), .val (.int ((u0.toUInt32.toUInt16.toUInt32.toInt32) ||| (32 : Int32))), .val (.int b), .val (.int (1 : Int32)), .val (.ref b9), .val (.int (3 : Int32)), .val (.int (0 : Int32)), .unset] [(.int (0 : Int32)), (.int (own_il (91 : Int32)))]))
      refine own_st (fun _ k => XS.icmpNo X26.here hx rfl (hb hby at_142) rfl (teq (by decide)).2 k) ?_
      show own_Go _ _ _ _ (T26.setTop (mkF m 145 #[.val (.int u0), .val (.int u1), .val (.int (u0.toUInt32.toUInt16.toUInt32.toInt32)), .val (.int ((u0.toUInt32.toUInt16.toUInt32.toInt32) ||| (32 : Int32))), .val (.int b), .val (.int (1 : Int32)), .val (.ref b9), .val (.int (3 : Int32)), .val (.int (0 : Int32)), .unset] []))
      refine own_st (fun _ k => XS.iconst X26.here hx rfl (hb hby at_145) k) ?_
      show own_Go _ _ _ _ (T26.setTop (mkF m 146 #[.val (.int u0), .val (.int u1), .val (.int (u0.toUInt32.toUInt16.toUInt32.toInt32)), .val (.int ((u0.toUInt32.toUInt16.toUInt32.toInt32) ||| (32 : Int32))), .val (.int b), .val (.int (1 : Int32)), .val (.ref b9), .val (.int (3 : Int32)), .val (.int (0 : Int32)), .unset] [(.int (1 : Int32))]))
      refine own_st (fun _ k => XS.goto X26.here hx rfl (pc0 := 146) (pc' := 150) rfl (hb hby at_146) (by decide) (by decide) k) ?_
      show own_Go _ _ _ _ (T26.setTop (mkF m 150 #[.val (.int u0), .val (.int u1), .val (.int (u0.toUInt32.toUInt16.toUInt32.toInt32)), .val (.int ((u0.toUInt32.toUInt16.toUInt32.toInt32) ||| (32 : Int32))), .val (.int b), .val (.int (1 : Int32)), .val (.ref b9), .val (.int (3 : Int32)), .val (.int (0 : Int32)), .unset] [(.int (1 : Int32))]))
      refine own_st (fun _ k => XS.istore X26.here hx rfl (hb hby at_150) rfl (l' := #[.val (.int u0), .val (.int u1), .val (.int (u0.toUInt32.toUInt16.toUInt32.toInt32)), .val (.int ((u0.toUInt32.toUInt16.toUInt32.toInt32) ||| (32 : Int32))), .val (.int b), .val (.int (1 : Int32)), .val (.ref b9), .val (.int (3 : Int32)), .val (.int (0 : Int32)), .val (.int (1 : Int32))]) rfl k) ?_
      show own_Go _ _ _ _ (T26.setTop (mkF m 152 #[.val (.int u0), .val (.int u1), .val (.int (u0.toUInt32.toUInt16.toUInt32.toInt32)), .val (.int ((u0.toUInt32.toUInt16.toUInt32.toInt32) ||| (32 : Int32))), .val (.int b), .val (.int (1 : Int32)), .val (.ref b9), .val (.int (3 : Int32)), .val (.int (0 : Int32)), .val (.int (1 : Int32))] []))
      refine own_st (fun _ k => XS.iload X26.here hx rfl (hb hby at_152) rfl k) ?_
      show own_Go _ _ _ _ (T26.setTop (mkF m 154 #[.val (.int u0), .val (.int u1), .val (.int (u0.toUInt32.toUInt16.toUInt32.toInt32)), .val (.int ((u0.toUInt32.toUInt16.toUInt32.toInt32) ||| (32 : Int32))), .val (.int b), .val (.int (1 : Int32)), .val (.ref b9), .val (.int (3 : Int32)), .val (.int (0 : Int32)), .val (.int (1 : Int32))] [(.int (1 : Int32))]))
      refine own_st (fun _ k => XS.ifNo X26.here hx rfl (hb hby at_154) rfl ((if0 _ _).trans (feq (by decide : ¬ ((1 : Int32) = (0 : Int32)))).1) k) ?_
      show own_Go _ _ _ _ (T26.setTop (mkF m 157 #[.val (.int u0), .val (.int u1), .val (.int (u0.toUInt32.toUInt16.toUInt32.toInt32)), .val (.int ((u0.toUInt32.toUInt16.toUInt32.toInt32) ||| (32 : Int32))), .val (.int b), .val (.int (1 : Int32)), .val (.ref b9), .val (.int (3 : Int32)), .val (.int (0 : Int32)), .val (.int (1 : Int32))] []))
      refine own_st (fun _ k => XS.iload X26.here hx rfl (hb hby at_157) rfl k) ?_
      show own_Go _ _ _ _ (T26.setTop (mkF m 159 #[.val (.int u0), .val (.int u1), .val (.int (u0.toUInt32.toUInt16.toUInt32.toInt32)), .val (.int ((u0.toUInt32.toUInt16.toUInt32.toInt32) ||| (32 : Int32))), .val (.int b), .val (.int (1 : Int32)), .val (.ref b9), .val (.int (3 : Int32)), .val (.int (0 : Int32)), .val (.int (1 : Int32))] [(.int (1 : Int32))]))
      refine own_st (fun _ k => XS.ifNo X26.here hx rfl (hb hby at_159) rfl ((if0 _ _).trans (feq (by decide : ¬ ((1 : Int32) = (0 : Int32)))).1) k) ?_
      show own_Go _ _ _ _ (T26.setTop (mkF m 162 #[.val (.int u0), .val (.int u1), .val (.int (u0.toUInt32.toUInt16.toUInt32.toInt32)), .val (.int ((u0.toUInt32.toUInt16.toUInt32.toInt32) ||| (32 : Int32))), .val (.int b), .val (.int (1 : Int32)), .val (.ref b9), .val (.int (3 : Int32)), .val (.int (0 : Int32)), .val (.int (1 : Int32))] []))
      refine own_st (fun _ k => XS.iconst X26.here hx rfl (hb hby at_162) k) ?_
      show own_Go _ _ _ _ (T26.setTop (mkF m 163 #[.val (.int u0), .val (.int u1), .val (.int (u0.toUInt32.toUInt16.toUInt32.toInt32)), .val (.int ((u0.toUInt32.toUInt16.toUInt32.toInt32) ||| (32 : Int32))), .val (.int b), .val (.int (1 : Int32)), .val (.ref b9), .val (.int (3 : Int32)), .val (.int (0 : Int32)), .val (.int (1 : Int32))] [(.int (1 : Int32))]))
      refine own_st (fun _ k => XS.goto X26.here hx rfl (pc0 := 163) (pc' := 167) rfl (hb hby at_163) (by decide) (by decide) k) ?_
      show own_Go _ _ _ _ (T26.setTop (mkF m 167 #[.val (.int u0), .val (.int u1), .val (.int (u0.toUInt32.toUInt16.toUInt32.toInt32)), .val (.int ((u0.toUInt32.toUInt16.toUInt32.toInt32) ||| (32 : Int32))), .val (.int b), .val (.int (1 : Int32)), .val (.ref b9), .val (.int (3 : Int32)), .val (.int (0 : Int32)), .val (.int (1 : Int32))] [(.int (1 : Int32))]))
      obtain ⟨fs, hr, hrun, hended, hW, hsame⟩ := X26.leave (v := some (.int (1 : Int32))) (fun h => by rw [Bd.returns] at h; cases h)
      refine own_out (retN X26 hx (t := .boolean) Bd.returns (by simp) (hb hby at_167) hr) ⟨hrun, hended, _, _, rfl, ?_, ⟨_, rfl⟩, hW, hsame.mono (by decide) (by decide)⟩
      show Q0 Z u0 u1 h0 n0 _ T26.heap _
      exact ⟨rfl, N26⟩
    · skip
      rw [hs18]
      show own_Go _ _ _ _ (T17.setTop (mkF m 100 #[.val (.int u0), .val (.int u1), .val (.int (u0.toUInt32.toUInt16.toUInt32.toInt32)), .val (.int ((u0.toUInt32.toUInt16.toUInt32.toInt32) ||| (32 : Int32))), .val (.int b), .val (.int (1 : Int32)), .val (.ref b9), .val (.int (4 : Int32)), .unset, .unset] []))
      refine own_st (fun _ k => XS.iload X17.here hx rfl (hb hby at_100) rfl k) ?_
      show own_Go _ _ _ _ (T17.setTop (mkF m 102 #[.val (.int u0), .val (.int u1), .val (.int (u0.toUInt32.toUInt16.toUInt32.toInt32)), .val (.int ((u0.toUInt32.toUInt16.toUInt32.toInt32) ||| (32 : Int32))), .val (.int b), .val (.int (1 : Int32)), .val (.ref b9), .val (.int (4 : Int32)), .unset, .unset] [(.int (4 : Int32))]))
      refine own_st (fun _ k => XS.iconst X17.here hx rfl (hb hby at_102) k) ?_
      show own_Go _ _ _ _ (T17.setTop (mkF m 103 #[.val (.int u0), .val (.int u1), .val (.int (u0.toUInt32.toUInt16.toUInt32.toInt32)), .val (.int ((u0.toUInt32.toUInt16.toUInt32.toInt32) ||| (32 : Int32))), .val (.int b), .val (.int (1 : Int32)), .val (.ref b9), .val (.int (4 : Int32)), .unset, .unset] [(.int (1 : Int32)), (.int (4 : Int32))]))
      refine own_st (fun _ k => XS.icmpNo X17.here hx rfl (hb hby at_103) rfl (feq (by decide : ¬ ((4 : Int32) = (1 : Int32)))).1 k) ?_
      show own_Go _ _ _ _ (T17.setTop (mkF m 106 #[.val (.int u0), .val (.int u1), .val (.int (u0.toUInt32.toUInt16.toUInt32.toInt32)), .val (.int ((u0.toUInt32.toUInt16.toUInt32.toInt32) ||| (32 : Int32))), .val (.int b), .val (.int (1 : Int32)), .val (.ref b9), .val (.int (4 : Int32)), .unset, .unset] []))
      refine own_st (fun _ k => XS.iload X17.here hx rfl (hb hby at_106) rfl k) ?_
      show own_Go _ _ _ _ (T17.setTop (mkF m 108 #[.val (.int u0), .val (.int u1), .val (.int (u0.toUInt32.toUInt16.toUInt32.toInt32)), .val (.int ((u0.toUInt32.toUInt16.toUInt32.toInt32) ||| (32 : Int32))), .val (.int b), .val (.int (1 : Int32)), .val (.ref b9), .val (.int (4 : Int32)), .unset, .unset] [(.int (4 : Int32))]))
      refine own_st (fun _ k => XS.iconst X17.here hx rfl (hb hby at_108) k) ?_
      show own_Go _ _ _ _ (T17.setTop (mkF m 109 #[.val (.int u0), .val (.int u1), .val (.int (u0.toUInt32.toUInt16.toUInt32.toInt32)), .val (.int ((u0.toUInt32.toUInt16.toUInt32.toInt32) ||| (32 : Int32))), .val (.int b), .val (.int (1 : Int32)), .val (.ref b9), .val (.int (4 : Int32)), .unset, .unset] [(.int (2 : Int32)), (.int (4 : Int32))]))
      refine own_st (fun _ k => XS.icmpNo X17.here hx rfl (hb hby at_109) rfl (feq (by decide : ¬ ((4 : Int32) = (2 : Int32)))).1 k) ?_
      show own_Go _ _ _ _ (T17.setTop (mkF m 112 #[.val (.int u0), .val (.int u1), .val (.int (u0.toUInt32.toUInt16.toUInt32.toInt32)), .val (.int ((u0.toUInt32.toUInt16.toUInt32.toInt32) ||| (32 : Int32))), .val (.int b), .val (.int (1 : Int32)), .val (.ref b9), .val (.int (4 : Int32)), .unset, .unset] []))
      refine own_st (fun _ k => XS.iload X17.here hx rfl (hb hby at_112) rfl k) ?_
      show own_Go _ _ _ _ (T17.setTop (mkF m 114 #[.val (.int u0), .val (.int u1), .val (.int (u0.toUInt32.toUInt16.toUInt32.toInt32)), .val (.int ((u0.toUInt32.toUInt16.toUInt32.toInt32) ||| (32 : Int32))), .val (.int b), .val (.int (1 : Int32)), .val (.ref b9), .val (.int (4 : Int32)), .unset, .unset] [(.int (4 : Int32))]))
      refine own_st (fun _ k => XS.iconst X17.here hx rfl (hb hby at_114) k) ?_
      show own_Go _ _ _ _ (T17.setTop (mkF m 115 #[.val (.int u0), .val (.int u1), .val (.int (u0.toUInt32.toUInt16.toUInt32.toInt32)), .val (.int ((u0.toUInt32.toUInt16.toUInt32.toInt32) ||| (32 : Int32))), .val (.int b), .val (.int (1 : Int32)), .val (.ref b9), .val (.int (4 : Int32)), .unset, .unset] [(.int (5 : Int32)), (.int (4 : Int32))]))
      refine own_st (fun _ k => XS.icmpNo X17.here hx rfl (hb hby at_115) rfl (feq (by decide : ¬ ((4 : Int32) = (5 : Int32)))).1 k) ?_
      show own_Go _ _ _ _ (T17.setTop (mkF m 118 #[.val (.int u0), .val (.int u1), .val (.int (u0.toUInt32.toUInt16.toUInt32.toInt32)), .val (.int ((u0.toUInt32.toUInt16.toUInt32.toInt32) ||| (32 : Int32))), .val (.int b), .val (.int (1 : Int32)), .val (.ref b9), .val (.int (4 : Int32)), .unset, .unset] []))
      refine own_st (fun _ k => XS.iload X17.here hx rfl (hb hby at_118) rfl k) ?_
      show own_Go _ _ _ _ (T17.setTop (mkF m 120 #[.val (.int u0), .val (.int u1), .val (.int (u0.toUInt32.toUInt16.toUInt32.toInt32)), .val (.int ((u0.toUInt32.toUInt16.toUInt32.toInt32) ||| (32 : Int32))), .val (.int b), .val (.int (1 : Int32)), .val (.ref b9), .val (.int (4 : Int32)), .unset, .unset] [(.int (4 : Int32))]))
      refine own_st (fun _ k => XS.bipush X17.here hx rfl (hb hby at_120) k) ?_
      show own_Go _ _ _ _ (T17.setTop (mkF m 122 #[.val (.int u0), .val (.int u1), .val (.int (u0.toUInt32.toUInt16.toUInt32.toInt32)), .val (.int ((u0.toUInt32.toUInt16.toUInt32.toInt32) ||| (32 : Int32))), .val (.int b), .val (.int (1 : Int32)), .val (.ref b9), .val (.int (4 : Int32)), .unset, .unset] [(.int (6 : Int32)), (.int (4 : Int32))]))
      refine own_st (fun _ k => XS.icmpYes X17.here hx rfl (pc0 := 122) (pc' := 129) rfl (hb hby at_122) rfl (feq (by decide : ¬ ((4 : Int32) = (6 : Int32)))).2 (by decide) (by decide) k) ?_
      show own_Go _ _ _ _ (T17.setTop (mkF m 129 #[.val (.int u0), .val (.int u1), .val (.int (u0.toUInt32.toUInt16.toUInt32.toInt32)), .val (.int ((u0.toUInt32.toUInt16.toUInt32.toInt32) ||| (32 : Int32))), .val (.int b), .val (.int (1 : Int32)), .val (.ref b9), .val (.int (4 : Int32)), .unset, .unset] []))
      refine own_st (fun _ k => XS.iconst X17.here hx rfl (hb hby at_129) k) ?_
      show own_Go _ _ _ _ (T17.setTop (mkF m 130 #[.val (.int u0), .val (.int u1), .val (.int (u0.toUInt32.toUInt16.toUInt32.toInt32)), .val (.int ((u0.toUInt32.toUInt16.toUInt32.toInt32) ||| (32 : Int32))), .val (.int b), .val (.int (1 : Int32)), .val (.ref b9), .val (.int (4 : Int32)), .unset, .unset] [(.int (0 : Int32))]))
      refine own_st (fun _ k => XS.istore X17.here hx rfl (hb hby at_130) rfl (l' := #[.val (.int u0), .val (.int u1), .val (.int (u0.toUInt32.toUInt16.toUInt32.toInt32)), .val (.int ((u0.toUInt32.toUInt16.toUInt32.toInt32) ||| (32 : Int32))), .val (.int b), .val (.int (1 : Int32)), .val (.ref b9), .val (.int (4 : Int32)), .val (.int (0 : Int32)), .unset]) rfl k) ?_
      show own_Go _ _ _ _ (T17.setTop (mkF m 132 #[.val (.int u0), .val (.int u1), .val (.int (u0.toUInt32.toUInt16.toUInt32.toInt32)), .val (.int ((u0.toUInt32.toUInt16.toUInt32.toInt32) ||| (32 : Int32))), .val (.int b), .val (.int (1 : Int32)), .val (.ref b9), .val (.int (4 : Int32)), .val (.int (0 : Int32)), .unset] []))
      refine own_st (fun _ k => XS.aload X17.here hx rfl (hb hby at_132) rfl rfl k) ?_
      show own_Go _ _ _ _ (T17.setTop (mkF m 134 #[.val (.int u0), .val (.int u1), .val (.int (u0.toUInt32.toUInt16.toUInt32.toInt32)), .val (.int ((u0.toUInt32.toUInt16.toUInt32.toInt32) ||| (32 : Int32))), .val (.int b), .val (.int (1 : Int32)), .val (.ref b9), .val (.int (4 : Int32)), .val (.int (0 : Int32)), .unset] [(.ref b9)]))
      refine own_st (fun _ k => XS.iload X17.here hx rfl (hb hby at_134) rfl k) ?_
      show own_Go _ _ _ _ (T17.setTop (mkF m 136 #[.val (.int u0), .val (.int u1), .val (.int (u0.toUInt32.toUInt16.toUInt32.toInt32)), .val (.int ((u0.toUInt32.toUInt16.toUInt32.toInt32) ||| (32 : Int32))), .val (.int b), .val (.int (1 : Int32)), .val (.ref b9), .val (.int (4 : Int32)), .val (.int (0 : Int32)), .unset] [(.int (4 : Int32)), (.ref b9)]))
      obtain ⟨cl27, Ar27, -, Sz27, Nn27, Hs27, -⟩ := id V17'
      have hin27 : ¬ ((4 : Int32) < 0 ∨ cl27.slots.size ≤ ((4 : Int32)).toNatClampNeg) := inb_of Sz27 ⟨(by decide : ¬ ((4 : Int32) < (0 : Int32))), (by decide : (4 : Int32) < (8 : Int32))⟩
      have hat27 : cl27.slots[((4 : Int32)).toNatClampNeg]? = some (.int (96 : Int32)) := Hs27.at hin27 rfl
      refine own_st (X17.caload hx (j := (4 : Int32)) (v := (.int (96 : Int32))) (by rw [e17]; exact Ar27.1) (State.isArrayOf_alike hZ.alike Ar27.2.1) Ar27.2.2 hin27 hat27 (g := (mkF m 136 #[.val (.int u0), .val (.int u1), .val (.int (u0.toUInt32.toUInt16.toUInt32.toInt32)), .val (.int ((u0.toUInt32.toUInt16.toUInt32.toInt32) ||| (32 : Int32))), .val (.int b), .val (.int (1 : Int32)), .val (.ref b9), .val (.int (4 : Int32)), .val (.int (0 : Int32)), .unset] [(.int (4 : Int32)), (.ref b9)])) rfl rfl (hb hby at_136)) ?_
      show own_Go _ _ _ _ (T17.setTop (mkF m 137 #[.val (.int u0), .val (.int u1), .val (.int (u0.toUInt32.toUInt16.toUInt32.toInt32)), .val (.int ((u0.toUInt32.toUInt16.toUInt32.toInt32) ||| (32 : Int32))), .val (.int b), .val (.int (1 : Int32)), .val (.ref b9), .val (.int (4 : Int32)), .val (.int (0 : Int32)), .unset] [(.int (96 : Int32))]))
      obtain ⟨_, _, ⟨T28, L28, k28, n28⟩, -, X28, ⟨Lc28, hQ28, l28, y28, z28⟩, st28⟩ := Jvm.LawKit.callS X17 hx (y := (⟨"com/example/handler/handler/HttpSyntax", "isLetter", "(C)Z"⟩ : MethodName)) hown (mvT hZ (hw _ (List.mem_of_getElem? (i := 0) rfl))) (mvT hZ (hw _ (List.mem_of_getElem? (i := 1) rfl))) (mvT hZ (hw _ (List.mem_of_getElem? (i := 2) rfl))) (mvT hZ (hw _ (List.mem_of_getElem? (i := 3) rfl))) (by decide) (backOf (W := 0) (rm1 l Z a0 hw [] (96 : Int32) h17 n0 Z17 ) hZ (hw _ (List.mem_of_getElem? (i := 3) rfl)) (hw _ (List.mem_of_getElem? (i := 2) rfl)) (by decide) (by decide)) (g := (mkF m 137 #[.val (.int u0), .val (.int u1), .val (.int (u0.toUInt32.toUInt16.toUInt32.toInt32)), .val (.int ((u0.toUInt32.toUInt16.toUInt32.toInt32) ||| (32 : Int32))), .val (.int b), .val (.int (1 : Int32)), .val (.ref b9), .val (.int (4 : Int32)), .val (.int (0 : Int32)), .unset] [(.int (96 : Int32))])) rfl (by rw [hml]; rfl) (argsL := [(.int (96 : Int32))]) (rest := []) (lenOf own_pd0 rfl) rfl (by show 2 * 0 + _ ≤ _; exact Nat.le_of_eq rfl) (hb hby at_137) (fun _ _ => ⟨rfl, e17, (by decide : 1 + 0 ≤ _), (by decide : 8 + 0 ≤ _)⟩)
      dsimp only [Pt.U, Pt.locs, Pt.cells, Pt.slots] at X28 l28 y28 z28 st28 hQ28
      subst l28 y28 z28
      obtain ⟨rfl, Nq28, eq28⟩ := hQ28
      have N28 := Fr.app N17 Nq28
      refine own_st st28 ?_
      show own_Go _ _ _ _ (T28.setTop (mkF m 140 #[.val (.int u0), .val (.int u1), .val (.int (u0.toUInt32.toUInt16.toUInt32.toInt32)), .val (.int ((u0.toUInt32.toUInt16.toUInt32.toInt32) ||| (32 : Int32))), .val (.int b), .val (.int (1 : Int32)), .val (.ref b9), .val (.int (4 : Int32)), .val (.int (0 : Int32)), .unset] [(.int (own_il (96 : Int32)))]))
      refine own_st (fun _ k => XS.iload X28.here hx rfl (hb hby at_140) rfl k) ?_
      show own_Go _ _ _ _ (T28.setTop (mkF m 142 #[.val (.int u0), .val (.int u1), .val (.int (u0.toUInt32.toUInt16.toUInt32.toInt32)), .val (.int ((u0.toUInt32.toUInt16.toUInt32.toInt32) ||| (32 : Int32))), .val (.int b), .val (.int (1 : Int32)), .val (.ref b9), .val (.int (4 : Int32)), .val (.int (0 : Int32)), .unset] [(.int (0 : Int32)), (.int (own_il (96 : Int32)))]))
      refine own_st (fun _ k => XS.icmpNo X28.here hx rfl (hb hby at_142) rfl (teq (by decide)).2 k) ?_
      show own_Go _ _ _ _ (T28.setTop (mkF m 145 #[.val (.int u0), .val (.int u1), .val (.int (u0.toUInt32.toUInt16.toUInt32.toInt32)), .val (.int ((u0.toUInt32.toUInt16.toUInt32.toInt32) ||| (32 : Int32))), .val (.int b), .val (.int (1 : Int32)), .val (.ref b9), .val (.int (4 : Int32)), .val (.int (0 : Int32)), .unset] []))
      refine own_st (fun _ k => XS.iconst X28.here hx rfl (hb hby at_145) k) ?_
      show own_Go _ _ _ _ (T28.setTop (mkF m 146 #[.val (.int u0), .val (.int u1), .val (.int (u0.toUInt32.toUInt16.toUInt32.toInt32)), .val (.int ((u0.toUInt32.toUInt16.toUInt32.toInt32) ||| (32 : Int32))), .val (.int b), .val (.int (1 : Int32)), .val (.ref b9), .val (.int (4 : Int32)), .val (.int (0 : Int32)), .unset] [(.int (1 : Int32))]))
      refine own_st (fun _ k => XS.goto X28.here hx rfl (pc0 := 146) (pc' := 150) rfl (hb hby at_146) (by decide) (by decide) k) ?_
      show own_Go _ _ _ _ (T28.setTop (mkF m 150 #[.val (.int u0), .val (.int u1), .val (.int (u0.toUInt32.toUInt16.toUInt32.toInt32)), .val (.int ((u0.toUInt32.toUInt16.toUInt32.toInt32) ||| (32 : Int32))), .val (.int b), .val (.int (1 : Int32)), .val (.ref b9), .val (.int (4 : Int32)), .val (.int (0 : Int32)), .unset] [(.int (1 : Int32))]))
      refine own_st (fun _ k => XS.istore X28.here hx rfl (hb hby at_150) rfl (l' := #[.val (.int u0), .val (.int u1), .val (.int (u0.toUInt32.toUInt16.toUInt32.toInt32)), .val (.int ((u0.toUInt32.toUInt16.toUInt32.toInt32) ||| (32 : Int32))), .val (.int b), .val (.int (1 : Int32)), .val (.ref b9), .val (.int (4 : Int32)), .val (.int (0 : Int32)), .val (.int (1 : Int32))]) rfl k) ?_
      show own_Go _ _ _ _ (T28.setTop (mkF m 152 #[.val (.int u0), .val (.int u1), .val (.int (u0.toUInt32.toUInt16.toUInt32.toInt32)), .val (.int ((u0.toUInt32.toUInt16.toUInt32.toInt32) ||| (32 : Int32))), .val (.int b), .val (.int (1 : Int32)), .val (.ref b9), .val (.int (4 : Int32)), .val (.int (0 : Int32)), .val (.int (1 : Int32))] []))
      refine own_st (fun _ k => XS.iload X28.here hx rfl (hb hby at_152) rfl k) ?_
      show own_Go _ _ _ _ (T28.setTop (mkF m 154 #[.val (.int u0), .val (.int u1), .val (.int (u0.toUInt32.toUInt16.toUInt32.toInt32)), .val (.int ((u0.toUInt32.toUInt16.toUInt32.toInt32) ||| (32 : Int32))), .val (.int b), .val (.int (1 : Int32)), .val (.ref b9), .val (.int (4 : Int32)), .val (.int (0 : Int32)), .val (.int (1 : Int32))] [(.int (1 : Int32))]))
      refine own_st (fun _ k => XS.ifNo X28.here hx rfl (hb hby at_154) rfl ((if0 _ _).trans (feq (by decide : ¬ ((1 : Int32) = (0 : Int32)))).1) k) ?_
      show own_Go _ _ _ _ (T28.setTop (mkF m 157 #[.val (.int u0), .val (.int u1), .val (.int (u0.toUInt32.toUInt16.toUInt32.toInt32)), .val (.int ((u0.toUInt32.toUInt16.toUInt32.toInt32) ||| (32 : Int32))), .val (.int b), .val (.int (1 : Int32)), .val (.ref b9), .val (.int (4 : Int32)), .val (.int (0 : Int32)), .val (.int (1 : Int32))] []))
      refine own_st (fun _ k => XS.iload X28.here hx rfl (hb hby at_157) rfl k) ?_
      show own_Go _ _ _ _ (T28.setTop (mkF m 159 #[.val (.int u0), .val (.int u1), .val (.int (u0.toUInt32.toUInt16.toUInt32.toInt32)), .val (.int ((u0.toUInt32.toUInt16.toUInt32.toInt32) ||| (32 : Int32))), .val (.int b), .val (.int (1 : Int32)), .val (.ref b9), .val (.int (4 : Int32)), .val (.int (0 : Int32)), .val (.int (1 : Int32))] [(.int (1 : Int32))]))
      refine own_st (fun _ k => XS.ifNo X28.here hx rfl (hb hby at_159) rfl ((if0 _ _).trans (feq (by decide : ¬ ((1 : Int32) = (0 : Int32)))).1) k) ?_
      show own_Go _ _ _ _ (T28.setTop (mkF m 162 #[.val (.int u0), .val (.int u1), .val (.int (u0.toUInt32.toUInt16.toUInt32.toInt32)), .val (.int ((u0.toUInt32.toUInt16.toUInt32.toInt32) ||| (32 : Int32))), .val (.int b), .val (.int (1 : Int32)), .val (.ref b9), .val (.int (4 : Int32)), .val (.int (0 : Int32)), .val (.int (1 : Int32))] []))
      refine own_st (fun _ k => XS.iconst X28.here hx rfl (hb hby at_162) k) ?_
      show own_Go _ _ _ _ (T28.setTop (mkF m 163 #[.val (.int u0), .val (.int u1), .val (.int (u0.toUInt32.toUInt16.toUInt32.toInt32)), .val (.int ((u0.toUInt32.toUInt16.toUInt32.toInt32) ||| (32 : Int32))), .val (.int b), .val (.int (1 : Int32)), .val (.ref b9), .val (.int (4 : Int32)), .val (.int (0 : Int32)), .val (.int (1 : Int32))] [(.int (1 : Int32))]))
      refine own_st (fun _ k => XS.goto X28.here hx rfl (pc0 := 163) (pc' := 167) rfl (hb hby at_163) (by decide) (by decide) k) ?_
      show own_Go _ _ _ _ (T28.setTop (mkF m 167 #[.val (.int u0), .val (.int u1), .val (.int (u0.toUInt32.toUInt16.toUInt32.toInt32)), .val (.int ((u0.toUInt32.toUInt16.toUInt32.toInt32) ||| (32 : Int32))), .val (.int b), .val (.int (1 : Int32)), .val (.ref b9), .val (.int (4 : Int32)), .val (.int (0 : Int32)), .val (.int (1 : Int32))] [(.int (1 : Int32))]))
      obtain ⟨fs, hr, hrun, hended, hW, hsame⟩ := X28.leave (v := some (.int (1 : Int32))) (fun h => by rw [Bd.returns] at h; cases h)
      refine own_out (retN X28 hx (t := .boolean) Bd.returns (by simp) (hb hby at_167) hr) ⟨hrun, hended, _, _, rfl, ?_, ⟨_, rfl⟩, hW, hsame.mono (by decide) (by decide)⟩
      show Q0 Z u0 u1 h0 n0 _ T28.heap _
      exact ⟨rfl, N28⟩
    · skip
      rw [hs18]
      show own_Go _ _ _ _ (T17.setTop (mkF m 100 #[.val (.int u0), .val (.int u1), .val (.int (u0.toUInt32.toUInt16.toUInt32.toInt32)), .val (.int ((u0.toUInt32.toUInt16.toUInt32.toInt32) ||| (32 : Int32))), .val (.int b), .val (.int (1 : Int32)), .val (.ref b9), .val (.int (5 : Int32)), .unset, .unset] []))
      refine own_st (fun _ k => XS.iload X17.here hx rfl (hb hby at_100) rfl k) ?_
      show own_Go _ _ _ _ (T17.setTop (mkF m 102 #[.val (.int u0), .val (.int u1), .val (.int (u0.toUInt32.toUInt16.toUInt32.toInt32)), .val (.int ((u0.toUInt32.toUInt16.toUInt32.toInt32) ||| (32 : Int32))), .val (.int b), .val (.int (1 : Int32)), .val (.ref b9), .val (.int (5 : Int32)), .unset, .unset] [(.int (5 : Int32))]))
      refine own_st (fun _ k => XS.iconst X17.here hx rfl (hb hby at_102) k) ?_
      show own_Go _ _ _ _ (T17.setTop (mkF m 103 #[.val (.int u0), .val (.int u1), .val (.int (u0.toUInt32.toUInt16.toUInt32.toInt32)), .val (.int ((u0.toUInt32.toUInt16.toUInt32.toInt32) ||| (32 : Int32))), .val (.int b), .val (.int (1 : Int32)), .val (.ref b9), .val (.int (5 : Int32)), .unset, .unset] [(.int (1 : Int32)), (.int (5 : Int32))]))
      refine own_st (fun _ k => XS.icmpNo X17.here hx rfl (hb hby at_103) rfl (feq (by decide : ¬ ((5 : Int32) = (1 : Int32)))).1 k) ?_
      show own_Go _ _ _ _ (T17.setTop (mkF m 106 #[.val (.int u0), .val (.int u1), .val (.int (u0.toUInt32.toUInt16.toUInt32.toInt32)), .val (.int ((u0.toUInt32.toUInt16.toUInt32.toInt32) ||| (32 : Int32))), .val (.int b), .val (.int (1 : Int32)), .val (.ref b9), .val (.int (5 : Int32)), .unset, .unset] []))
      refine own_st (fun _ k => XS.iload X17.here hx rfl (hb hby at_106) rfl k) ?_
      show own_Go _ _ _ _ (T17.setTop (mkF m 108 #[.val (.int u0), .val (.int u1), .val (.int (u0.toUInt32.toUInt16.toUInt32.toInt32)), .val (.int ((u0.toUInt32.toUInt16.toUInt32.toInt32) ||| (32 : Int32))), .val (.int b), .val (.int (1 : Int32)), .val (.ref b9), .val (.int (5 : Int32)), .unset, .unset] [(.int (5 : Int32))]))
      refine own_st (fun _ k => XS.iconst X17.here hx rfl (hb hby at_108) k) ?_
      show own_Go _ _ _ _ (T17.setTop (mkF m 109 #[.val (.int u0), .val (.int u1), .val (.int (u0.toUInt32.toUInt16.toUInt32.toInt32)), .val (.int ((u0.toUInt32.toUInt16.toUInt32.toInt32) ||| (32 : Int32))), .val (.int b), .val (.int (1 : Int32)), .val (.ref b9), .val (.int (5 : Int32)), .unset, .unset] [(.int (2 : Int32)), (.int (5 : Int32))]))
      refine own_st (fun _ k => XS.icmpNo X17.here hx rfl (hb hby at_109) rfl (feq (by decide : ¬ ((5 : Int32) = (2 : Int32)))).1 k) ?_
      show own_Go _ _ _ _ (T17.setTop (mkF m 112 #[.val (.int u0), .val (.int u1), .val (.int (u0.toUInt32.toUInt16.toUInt32.toInt32)), .val (.int ((u0.toUInt32.toUInt16.toUInt32.toInt32) ||| (32 : Int32))), .val (.int b), .val (.int (1 : Int32)), .val (.ref b9), .val (.int (5 : Int32)), .unset, .unset] []))
      refine own_st (fun _ k => XS.iload X17.here hx rfl (hb hby at_112) rfl k) ?_
      show own_Go _ _ _ _ (T17.setTop (mkF m 114 #[.val (.int u0), .val (.int u1), .val (.int (u0.toUInt32.toUInt16.toUInt32.toInt32)), .val (.int ((u0.toUInt32.toUInt16.toUInt32.toInt32) ||| (32 : Int32))), .val (.int b), .val (.int (1 : Int32)), .val (.ref b9), .val (.int (5 : Int32)), .unset, .unset] [(.int (5 : Int32))]))
      refine own_st (fun _ k => XS.iconst X17.here hx rfl (hb hby at_114) k) ?_
      show own_Go _ _ _ _ (T17.setTop (mkF m 115 #[.val (.int u0), .val (.int u1), .val (.int (u0.toUInt32.toUInt16.toUInt32.toInt32)), .val (.int ((u0.toUInt32.toUInt16.toUInt32.toInt32) ||| (32 : Int32))), .val (.int b), .val (.int (1 : Int32)), .val (.ref b9), .val (.int (5 : Int32)), .unset, .unset] [(.int (5 : Int32)), (.int (5 : Int32))]))
      refine own_st (fun _ k => XS.icmpYes X17.here hx rfl (pc0 := 115) (pc' := 125) rfl (hb hby at_115) rfl (teq (by decide : ((5 : Int32) = (5 : Int32)))).1 (by decide) (by decide) k) ?_
      show own_Go _ _ _ _ (T17.setTop (mkF m 125 #[.val (.int u0), .val (.int u1), .val (.int (u0.toUInt32.toUInt16.toUInt32.toInt32)), .val (.int ((u0.toUInt32.toUInt16.toUInt32.toInt32) ||| (32 : Int32))), .val (.int b), .val (.int (1 : Int32)), .val (.ref b9), .val (.int (5 : Int32)), .unset, .unset] []))
      refine own_st (fun _ k => XS.iconst X17.here hx rfl (hb hby at_125) k) ?_
      show own_Go _ _ _ _ (T17.setTop (mkF m 126 #[.val (.int u0), .val (.int u1), .val (.int (u0.toUInt32.toUInt16.toUInt32.toInt32)), .val (.int ((u0.toUInt32.toUInt16.toUInt32.toInt32) ||| (32 : Int32))), .val (.int b), .val (.int (1 : Int32)), .val (.ref b9), .val (.int (5 : Int32)), .unset, .unset] [(.int (1 : Int32))]))
      refine own_st (fun _ k => XS.goto X17.here hx rfl (pc0 := 126) (pc' := 130) rfl (hb hby at_126) (by decide) (by decide) k) ?_
      show own_Go _ _ _ _ (T17.setTop (mkF m 130 #[.val (.int u0), .val (.int u1), .val (.int (u0.toUInt32.toUInt16.toUInt32.toInt32)), .val (.int ((u0.toUInt32.toUInt16.toUInt32.toInt32) ||| (32 : Int32))), .val (.int b), .val (.int (1 : Int32)), .val (.ref b9), .val (.int (5 : Int32)), .unset, .unset] [(.int (1 : Int32))]))
      refine own_st (fun _ k => XS.istore X17.here hx rfl (hb hby at_130) rfl (l' := #[.val (.int u0), .val (.int u1), .val (.int (u0.toUInt32.toUInt16.toUInt32.toInt32)), .val (.int ((u0.toUInt32.toUInt16.toUInt32.toInt32) ||| (32 : Int32))), .val (.int b), .val (.int (1 : Int32)), .val (.ref b9), .val (.int (5 : Int32)), .val (.int (1 : Int32)), .unset]) rfl k) ?_
      show own_Go _ _ _ _ (T17.setTop (mkF m 132 #[.val (.int u0), .val (.int u1), .val (.int (u0.toUInt32.toUInt16.toUInt32.toInt32)), .val (.int ((u0.toUInt32.toUInt16.toUInt32.toInt32) ||| (32 : Int32))), .val (.int b), .val (.int (1 : Int32)), .val (.ref b9), .val (.int (5 : Int32)), .val (.int (1 : Int32)), .unset] []))
      refine own_st (fun _ k => XS.aload X17.here hx rfl (hb hby at_132) rfl rfl k) ?_
      show own_Go _ _ _ _ (T17.setTop (mkF m 134 #[.val (.int u0), .val (.int u1), .val (.int (u0.toUInt32.toUInt16.toUInt32.toInt32)), .val (.int ((u0.toUInt32.toUInt16.toUInt32.toInt32) ||| (32 : Int32))), .val (.int b), .val (.int (1 : Int32)), .val (.ref b9), .val (.int (5 : Int32)), .val (.int (1 : Int32)), .unset] [(.ref b9)]))
      refine own_st (fun _ k => XS.iload X17.here hx rfl (hb hby at_134) rfl k) ?_
      show own_Go _ _ _ _ (T17.setTop (mkF m 136 #[.val (.int u0), .val (.int u1), .val (.int (u0.toUInt32.toUInt16.toUInt32.toInt32)), .val (.int ((u0.toUInt32.toUInt16.toUInt32.toInt32) ||| (32 : Int32))), .val (.int b), .val (.int (1 : Int32)), .val (.ref b9), .val (.int (5 : Int32)), .val (.int (1 : Int32)), .unset] [(.int (5 : Int32)), (.ref b9)]))
      obtain ⟨cl29, Ar29, -, Sz29, Nn29, Hs29, -⟩ := id V17'
      have hin29 : ¬ ((5 : Int32) < 0 ∨ cl29.slots.size ≤ ((5 : Int32)).toNatClampNeg) := inb_of Sz29 ⟨(by decide : ¬ ((5 : Int32) < (0 : Int32))), (by decide : (5 : Int32) < (8 : Int32))⟩
      have hat29 : cl29.slots[((5 : Int32)).toNatClampNeg]? = some (.int (97 : Int32)) := Hs29.at hin29 rfl
      refine own_st (X17.caload hx (j := (5 : Int32)) (v := (.int (97 : Int32))) (by rw [e17]; exact Ar29.1) (State.isArrayOf_alike hZ.alike Ar29.2.1) Ar29.2.2 hin29 hat29 (g := (mkF m 136 #[.val (.int u0), .val (.int u1), .val (.int (u0.toUInt32.toUInt16.toUInt32.toInt32)), .val (.int ((u0.toUInt32.toUInt16.toUInt32.toInt32) ||| (32 : Int32))), .val (.int b), .val (.int (1 : Int32)), .val (.ref b9), .val (.int (5 : Int32)), .val (.int (1 : Int32)), .unset] [(.int (5 : Int32)), (.ref b9)])) rfl rfl (hb hby at_136)) ?_
      show own_Go _ _ _ _ (T17.setTop (mkF m 137 #[.val (.int u0), .val (.int u1), .val (.int (u0.toUInt32.toUInt16.toUInt32.toInt32)), .val (.int ((u0.toUInt32.toUInt16.toUInt32.toInt32) ||| (32 : Int32))), .val (.int b), .val (.int (1 : Int32)), .val (.ref b9), .val (.int (5 : Int32)), .val (.int (1 : Int32)), .unset] [(.int (97 : Int32))]))
      obtain ⟨_, _, ⟨T30, L30, k30, n30⟩, -, X30, ⟨Lc30, hQ30, l30, y30, z30⟩, st30⟩ := Jvm.LawKit.callS X17 hx (y := (⟨"com/example/handler/handler/HttpSyntax", "isLetter", "(C)Z"⟩ : MethodName)) hown (mvT hZ (hw _ (List.mem_of_getElem? (i := 0) rfl))) (mvT hZ (hw _ (List.mem_of_getElem? (i := 1) rfl))) (mvT hZ (hw _ (List.mem_of_getElem? (i := 2) rfl))) (mvT hZ (hw _ (List.mem_of_getElem? (i := 3) rfl))) (by decide) (backOf (W := 0) (rm1 l Z a0 hw [] (97 : Int32) h17 n0 Z17 ) hZ (hw _ (List.mem_of_getElem? (i := 3) rfl)) (hw _ (List.mem_of_getElem? (i := 2) rfl)) (by decide) (by decide)) (g := (mkF m 137 #[.val (.int u0), .val (.int u1), .val (.int (u0.toUInt32.toUInt16.toUInt32.toInt32)), .val (.int ((u0.toUInt32.toUInt16.toUInt32.toInt32) ||| (32 : Int32))), .val (.int b), .val (.int (1 : Int32)), .val (.ref b9), .val (.int (5 : Int32)), .val (.int (1 : Int32)), .unset] [(.int (97 : Int32))])) rfl (by rw [hml]; rfl) (argsL := [(.int (97 : Int32))]) (rest := []) (lenOf own_pd0 rfl) rfl (by show 2 * 0 + _ ≤ _; exact Nat.le_of_eq rfl) (hb hby at_137) (fun _ _ => ⟨rfl, e17, (by decide : 1 + 0 ≤ _), (by decide : 8 + 0 ≤ _)⟩)
      dsimp only [Pt.U, Pt.locs, Pt.cells, Pt.slots] at X30 l30 y30 z30 st30 hQ30
      subst l30 y30 z30
      obtain ⟨rfl, Nq30, eq30⟩ := hQ30
      have N30 := Fr.app N17 Nq30
      refine own_st st30 ?_
      show own_Go _ _ _ _ (T30.setTop (mkF m 140 #[.val (.int u0), .val (.int u1), .val (.int (u0.toUInt32.toUInt16.toUInt32.toInt32)), .val (.int ((u0.toUInt32.toUInt16.toUInt32.toInt32) ||| (32 : Int32))), .val (.int b), .val (.int (1 : Int32)), .val (.ref b9), .val (.int (5 : Int32)), .val (.int (1 : Int32)), .unset] [(.int (own_il (97 : Int32)))]))
      refine own_st (fun _ k => XS.iload X30.here hx rfl (hb hby at_140) rfl k) ?_
      show own_Go _ _ _ _ (T30.setTop (mkF m 142 #[.val (.int u0), .val (.int u1), .val (.int (u0.toUInt32.toUInt16.toUInt32.toInt32)), .val (.int ((u0.toUInt32.toUInt16.toUInt32.toInt32) ||| (32 : Int32))), .val (.int b), .val (.int (1 : Int32)), .val (.ref b9), .val (.int (5 : Int32)), .val (.int (1 : Int32)), .unset] [(.int (1 : Int32)), (.int (own_il (97 : Int32)))]))
      refine own_st (fun _ k => XS.icmpNo X30.here hx rfl (hb hby at_142) rfl (teq (by decide)).2 k) ?_
      show own_Go _ _ _ _ (T30.setTop (mkF m 145 #[.val (.int u0), .val (.int u1), .val (.int (u0.toUInt32.toUInt16.toUInt32.toInt32)), .val (.int ((u0.toUInt32.toUInt16.toUInt32.toInt32) ||| (32 : Int32))), .val (.int b), .val (.int (1 : Int32)), .val (.ref b9), .val (.int (5 : Int32)), .val (.int (1 : Int32)), .unset] []))
      refine own_st (fun _ k => XS.iconst X30.here hx rfl (hb hby at_145) k) ?_
      show own_Go _ _ _ _ (T30.setTop (mkF m 146 #[.val (.int u0), .val (.int u1), .val (.int (u0.toUInt32.toUInt16.toUInt32.toInt32)), .val (.int ((u0.toUInt32.toUInt16.toUInt32.toInt32) ||| (32 : Int32))), .val (.int b), .val (.int (1 : Int32)), .val (.ref b9), .val (.int (5 : Int32)), .val (.int (1 : Int32)), .unset] [(.int (1 : Int32))]))
      refine own_st (fun _ k => XS.goto X30.here hx rfl (pc0 := 146) (pc' := 150) rfl (hb hby at_146) (by decide) (by decide) k) ?_
      show own_Go _ _ _ _ (T30.setTop (mkF m 150 #[.val (.int u0), .val (.int u1), .val (.int (u0.toUInt32.toUInt16.toUInt32.toInt32)), .val (.int ((u0.toUInt32.toUInt16.toUInt32.toInt32) ||| (32 : Int32))), .val (.int b), .val (.int (1 : Int32)), .val (.ref b9), .val (.int (5 : Int32)), .val (.int (1 : Int32)), .unset] [(.int (1 : Int32))]))
      refine own_st (fun _ k => XS.istore X30.here hx rfl (hb hby at_150) rfl (l' := #[.val (.int u0), .val (.int u1), .val (.int (u0.toUInt32.toUInt16.toUInt32.toInt32)), .val (.int ((u0.toUInt32.toUInt16.toUInt32.toInt32) ||| (32 : Int32))), .val (.int b), .val (.int (1 : Int32)), .val (.ref b9), .val (.int (5 : Int32)), .val (.int (1 : Int32)), .val (.int (1 : Int32))]) rfl k) ?_
      show own_Go _ _ _ _ (T30.setTop (mkF m 152 #[.val (.int u0), .val (.int u1), .val (.int (u0.toUInt32.toUInt16.toUInt32.toInt32)), .val (.int ((u0.toUInt32.toUInt16.toUInt32.toInt32) ||| (32 : Int32))), .val (.int b), .val (.int (1 : Int32)), .val (.ref b9), .val (.int (5 : Int32)), .val (.int (1 : Int32)), .val (.int (1 : Int32))] []))
      refine own_st (fun _ k => XS.iload X30.here hx rfl (hb hby at_152) rfl k) ?_
      show own_Go _ _ _ _ (T30.setTop (mkF m 154 #[.val (.int u0), .val (.int u1), .val (.int (u0.toUInt32.toUInt16.toUInt32.toInt32)), .val (.int ((u0.toUInt32.toUInt16.toUInt32.toInt32) ||| (32 : Int32))), .val (.int b), .val (.int (1 : Int32)), .val (.ref b9), .val (.int (5 : Int32)), .val (.int (1 : Int32)), .val (.int (1 : Int32))] [(.int (1 : Int32))]))
      refine own_st (fun _ k => XS.ifNo X30.here hx rfl (hb hby at_154) rfl ((if0 _ _).trans (feq (by decide : ¬ ((1 : Int32) = (0 : Int32)))).1) k) ?_
      show own_Go _ _ _ _ (T30.setTop (mkF m 157 #[.val (.int u0), .val (.int u1), .val (.int (u0.toUInt32.toUInt16.toUInt32.toInt32)), .val (.int ((u0.toUInt32.toUInt16.toUInt32.toInt32) ||| (32 : Int32))), .val (.int b), .val (.int (1 : Int32)), .val (.ref b9), .val (.int (5 : Int32)), .val (.int (1 : Int32)), .val (.int (1 : Int32))] []))
      refine own_st (fun _ k => XS.iload X30.here hx rfl (hb hby at_157) rfl k) ?_
      show own_Go _ _ _ _ (T30.setTop (mkF m 159 #[.val (.int u0), .val (.int u1), .val (.int (u0.toUInt32.toUInt16.toUInt32.toInt32)), .val (.int ((u0.toUInt32.toUInt16.toUInt32.toInt32) ||| (32 : Int32))), .val (.int b), .val (.int (1 : Int32)), .val (.ref b9), .val (.int (5 : Int32)), .val (.int (1 : Int32)), .val (.int (1 : Int32))] [(.int (1 : Int32))]))
      refine own_st (fun _ k => XS.ifNo X30.here hx rfl (hb hby at_159) rfl ((if0 _ _).trans (feq (by decide : ¬ ((1 : Int32) = (0 : Int32)))).1) k) ?_
      show own_Go _ _ _ _ (T30.setTop (mkF m 162 #[.val (.int u0), .val (.int u1), .val (.int (u0.toUInt32.toUInt16.toUInt32.toInt32)), .val (.int ((u0.toUInt32.toUInt16.toUInt32.toInt32) ||| (32 : Int32))), .val (.int b), .val (.int (1 : Int32)), .val (.ref b9), .val (.int (5 : Int32)), .val (.int (1 : Int32)), .val (.int (1 : Int32))] []))
      refine own_st (fun _ k => XS.iconst X30.here hx rfl (hb hby at_162) k) ?_
      show own_Go _ _ _ _ (T30.setTop (mkF m 163 #[.val (.int u0), .val (.int u1), .val (.int (u0.toUInt32.toUInt16.toUInt32.toInt32)), .val (.int ((u0.toUInt32.toUInt16.toUInt32.toInt32) ||| (32 : Int32))), .val (.int b), .val (.int (1 : Int32)), .val (.ref b9), .val (.int (5 : Int32)), .val (.int (1 : Int32)), .val (.int (1 : Int32))] [(.int (1 : Int32))]))
      refine own_st (fun _ k => XS.goto X30.here hx rfl (pc0 := 163) (pc' := 167) rfl (hb hby at_163) (by decide) (by decide) k) ?_
      show own_Go _ _ _ _ (T30.setTop (mkF m 167 #[.val (.int u0), .val (.int u1), .val (.int (u0.toUInt32.toUInt16.toUInt32.toInt32)), .val (.int ((u0.toUInt32.toUInt16.toUInt32.toInt32) ||| (32 : Int32))), .val (.int b), .val (.int (1 : Int32)), .val (.ref b9), .val (.int (5 : Int32)), .val (.int (1 : Int32)), .val (.int (1 : Int32))] [(.int (1 : Int32))]))
      obtain ⟨fs, hr, hrun, hended, hW, hsame⟩ := X30.leave (v := some (.int (1 : Int32))) (fun h => by rw [Bd.returns] at h; cases h)
      refine own_out (retN X30 hx (t := .boolean) Bd.returns (by simp) (hb hby at_167) hr) ⟨hrun, hended, _, _, rfl, ?_, ⟨_, rfl⟩, hW, hsame.mono (by decide) (by decide)⟩
      show Q0 Z u0 u1 h0 n0 _ T30.heap _
      exact ⟨rfl, N30⟩
    · skip
      rw [hs18]
      show own_Go _ _ _ _ (T17.setTop (mkF m 100 #[.val (.int u0), .val (.int u1), .val (.int (u0.toUInt32.toUInt16.toUInt32.toInt32)), .val (.int ((u0.toUInt32.toUInt16.toUInt32.toInt32) ||| (32 : Int32))), .val (.int b), .val (.int (1 : Int32)), .val (.ref b9), .val (.int (6 : Int32)), .unset, .unset] []))
      refine own_st (fun _ k => XS.iload X17.here hx rfl (hb hby at_100) rfl k) ?_
      show own_Go _ _ _ _ (T17.setTop (mkF m 102 #[.val (.int u0), .val (.int u1), .val (.int (u0.toUInt32.toUInt16.toUInt32.toInt32)), .val (.int ((u0.toUInt32.toUInt16.toUInt32.toInt32) ||| (32 : Int32))), .val (.int b), .val (.int (1 : Int32)), .val (.ref b9), .val (.int (6 : Int32)), .unset, .unset] [(.int (6 : Int32))]))
      refine own_st (fun _ k => XS.iconst X17.here hx rfl (hb hby at_102) k) ?_
      show own_Go _ _ _ _ (T17.setTop (mkF m 103 #[.val (.int u0), .val (.int u1), .val (.int (u0.toUInt32.toUInt16.toUInt32.toInt32)), .val (.int ((u0.toUInt32.toUInt16.toUInt32.toInt32) ||| (32 : Int32))), .val (.int b), .val (.int (1 : Int32)), .val (.ref b9), .val (.int (6 : Int32)), .unset, .unset] [(.int (1 : Int32)), (.int (6 : Int32))]))
      refine own_st (fun _ k => XS.icmpNo X17.here hx rfl (hb hby at_103) rfl (feq (by decide : ¬ ((6 : Int32) = (1 : Int32)))).1 k) ?_
      show own_Go _ _ _ _ (T17.setTop (mkF m 106 #[.val (.int u0), .val (.int u1), .val (.int (u0.toUInt32.toUInt16.toUInt32.toInt32)), .val (.int ((u0.toUInt32.toUInt16.toUInt32.toInt32) ||| (32 : Int32))), .val (.int b), .val (.int (1 : Int32)), .val (.ref b9), .val (.int (6 : Int32)), .unset, .unset] []))
      refine own_st (fun _ k => XS.iload X17.here hx rfl (hb hby at_106) rfl k) ?_
      show own_Go _ _ _ _ (T17.setTop (mkF m 108 #[.val (.int u0), .val (.int u1), .val (.int (u0.toUInt32.toUInt16.toUInt32.toInt32)), .val (.int ((u0.toUInt32.toUInt16.toUInt32.toInt32) ||| (32 : Int32))), .val (.int b), .val (.int (1 : Int32)), .val (.ref b9), .val (.int (6 : Int32)), .unset, .unset] [(.int (6 : Int32))]))
      refine own_st (fun _ k => XS.iconst X17.here hx rfl (hb hby at_108) k) ?_
      show own_Go _ _ _ _ (T17.setTop (mkF m 109 #[.val (.int u0), .val (.int u1), .val (.int (u0.toUInt32.toUInt16.toUInt32.toInt32)), .val (.int ((u0.toUInt32.toUInt16.toUInt32.toInt32) ||| (32 : Int32))), .val (.int b), .val (.int (1 : Int32)), .val (.ref b9), .val (.int (6 : Int32)), .unset, .unset] [(.int (2 : Int32)), (.int (6 : Int32))]))
      refine own_st (fun _ k => XS.icmpNo X17.here hx rfl (hb hby at_109) rfl (feq (by decide : ¬ ((6 : Int32) = (2 : Int32)))).1 k) ?_
      show own_Go _ _ _ _ (T17.setTop (mkF m 112 #[.val (.int u0), .val (.int u1), .val (.int (u0.toUInt32.toUInt16.toUInt32.toInt32)), .val (.int ((u0.toUInt32.toUInt16.toUInt32.toInt32) ||| (32 : Int32))), .val (.int b), .val (.int (1 : Int32)), .val (.ref b9), .val (.int (6 : Int32)), .unset, .unset] []))
      refine own_st (fun _ k => XS.iload X17.here hx rfl (hb hby at_112) rfl k) ?_
      show own_Go _ _ _ _ (T17.setTop (mkF m 114 #[.val (.int u0), .val (.int u1), .val (.int (u0.toUInt32.toUInt16.toUInt32.toInt32)), .val (.int ((u0.toUInt32.toUInt16.toUInt32.toInt32) ||| (32 : Int32))), .val (.int b), .val (.int (1 : Int32)), .val (.ref b9), .val (.int (6 : Int32)), .unset, .unset] [(.int (6 : Int32))]))
      refine own_st (fun _ k => XS.iconst X17.here hx rfl (hb hby at_114) k) ?_
      show own_Go _ _ _ _ (T17.setTop (mkF m 115 #[.val (.int u0), .val (.int u1), .val (.int (u0.toUInt32.toUInt16.toUInt32.toInt32)), .val (.int ((u0.toUInt32.toUInt16.toUInt32.toInt32) ||| (32 : Int32))), .val (.int b), .val (.int (1 : Int32)), .val (.ref b9), .val (.int (6 : Int32)), .unset, .unset] [(.int (5 : Int32)), (.int (6 : Int32))]))
      refine own_st (fun _ k => XS.icmpNo X17.here hx rfl (hb hby at_115) rfl (feq (by decide : ¬ ((6 : Int32) = (5 : Int32)))).1 k) ?_
      show own_Go _ _ _ _ (T17.setTop (mkF m 118 #[.val (.int u0), .val (.int u1), .val (.int (u0.toUInt32.toUInt16.toUInt32.toInt32)), .val (.int ((u0.toUInt32.toUInt16.toUInt32.toInt32) ||| (32 : Int32))), .val (.int b), .val (.int (1 : Int32)), .val (.ref b9), .val (.int (6 : Int32)), .unset, .unset] []))
      refine own_st (fun _ k => XS.iload X17.here hx rfl (hb hby at_118) rfl k) ?_
      show own_Go _ _ _ _ (T17.setTop (mkF m 120 #[.val (.int u0), .val (.int u1), .val (.int (u0.toUInt32.toUInt16.toUInt32.toInt32)), .val (.int ((u0.toUInt32.toUInt16.toUInt32.toInt32) ||| (32 : Int32))), .val (.int b), .val (.int (1 : Int32)), .val (.ref b9), .val (.int (6 : Int32)), .unset, .unset] [(.int (6 : Int32))]))
      refine own_st (fun _ k => XS.bipush X17.here hx rfl (hb hby at_120) k) ?_
      show own_Go _ _ _ _ (T17.setTop (mkF m 122 #[.val (.int u0), .val (.int u1), .val (.int (u0.toUInt32.toUInt16.toUInt32.toInt32)), .val (.int ((u0.toUInt32.toUInt16.toUInt32.toInt32) ||| (32 : Int32))), .val (.int b), .val (.int (1 : Int32)), .val (.ref b9), .val (.int (6 : Int32)), .unset, .unset] [(.int (6 : Int32)), (.int (6 : Int32))]))
      refine own_st (fun _ k => XS.icmpNo X17.here hx rfl (hb hby at_122) rfl (teq (by decide : ((6 : Int32) = (6 : Int32)))).2 k) ?_
      show own_Go _ _ _ _ (T17.setTop (mkF m 125 #[.val (.int u0), .val (.int u1), .val (.int (u0.toUInt32.toUInt16.toUInt32.toInt32)), .val (.int ((u0.toUInt32.toUInt16.toUInt32.toInt32) ||| (32 : Int32))), .val (.int b), .val (.int (1 : Int32)), .val (.ref b9), .val (.int (6 : Int32)), .unset, .unset] []))
      refine own_st (fun _ k => XS.iconst X17.here hx rfl (hb hby at_125) k) ?_
      show own_Go _ _ _ _ (T17.setTop (mkF m 126 #[.val (.int u0), .val (.int u1), .val (.int (u0.toUInt32.toUInt16.toUInt32.toInt32)), .val (.int ((u0.toUInt32.toUInt16.toUInt32.toInt32) ||| (32 : Int32))), .val (.int b), .val (.int (1 : Int32)), .val (.ref b9), .val (.int (6 : Int32)), .unset, .unset] [(.int (1 : Int32))]))
      refine own_st (fun _ k => XS.goto X17.here hx rfl (pc0 := 126) (pc' := 130) rfl (hb hby at_126) (by decide) (by decide) k) ?_
      show own_Go _ _ _ _ (T17.setTop (mkF m 130 #[.val (.int u0), .val (.int u1), .val (.int (u0.toUInt32.toUInt16.toUInt32.toInt32)), .val (.int ((u0.toUInt32.toUInt16.toUInt32.toInt32) ||| (32 : Int32))), .val (.int b), .val (.int (1 : Int32)), .val (.ref b9), .val (.int (6 : Int32)), .unset, .unset] [(.int (1 : Int32))]))
      refine own_st (fun _ k => XS.istore X17.here hx rfl (hb hby at_130) rfl (l' := #[.val (.int u0), .val (.int u1), .val (.int (u0.toUInt32.toUInt16.toUInt32.toInt32)), .val (.int ((u0.toUInt32.toUInt16.toUInt32.toInt32) ||| (32 : Int32))), .val (.int b), .val (.int (1 : Int32)), .val (.ref b9), .val (.int (6 : Int32)), .val (.int (1 : Int32)), .unset]) rfl k) ?_
      show own_Go _ _ _ _ (T17.setTop (mkF m 132 #[.val (.int u0), .val (.int u1), .val (.int (u0.toUInt32.toUInt16.toUInt32.toInt32)), .val (.int ((u0.toUInt32.toUInt16.toUInt32.toInt32) ||| (32 : Int32))), .val (.int b), .val (.int (1 : Int32)), .val (.ref b9), .val (.int (6 : Int32)), .val (.int (1 : Int32)), .unset] []))
      refine own_st (fun _ k => XS.aload X17.here hx rfl (hb hby at_132) rfl rfl k) ?_
      show own_Go _ _ _ _ (T17.setTop (mkF m 134 #[.val (.int u0), .val (.int u1), .val (.int (u0.toUInt32.toUInt16.toUInt32.toInt32)), .val (.int ((u0.toUInt32.toUInt16.toUInt32.toInt32) ||| (32 : Int32))), .val (.int b), .val (.int (1 : Int32)), .val (.ref b9), .val (.int (6 : Int32)), .val (.int (1 : Int32)), .unset] [(.ref b9)]))
      refine own_st (fun _ k => XS.iload X17.here hx rfl (hb hby at_134) rfl k) ?_
      show own_Go _ _ _ _ (T17.setTop (mkF m 136 #[.val (.int u0), .val (.int u1), .val (.int (u0.toUInt32.toUInt16.toUInt32.toInt32)), .val (.int ((u0.toUInt32.toUInt16.toUInt32.toInt32) ||| (32 : Int32))), .val (.int b), .val (.int (1 : Int32)), .val (.ref b9), .val (.int (6 : Int32)), .val (.int (1 : Int32)), .unset] [(.int (6 : Int32)), (.ref b9)]))
      obtain ⟨cl31, Ar31, -, Sz31, Nn31, Hs31, -⟩ := id V17'
      have hin31 : ¬ ((6 : Int32) < 0 ∨ cl31.slots.size ≤ ((6 : Int32)).toNatClampNeg) := inb_of Sz31 ⟨(by decide : ¬ ((6 : Int32) < (0 : Int32))), (by decide : (6 : Int32) < (8 : Int32))⟩
      have hat31 : cl31.slots[((6 : Int32)).toNatClampNeg]? = some (.int (122 : Int32)) := Hs31.at hin31 rfl
      refine own_st (X17.caload hx (j := (6 : Int32)) (v := (.int (122 : Int32))) (by rw [e17]; exact Ar31.1) (State.isArrayOf_alike hZ.alike Ar31.2.1) Ar31.2.2 hin31 hat31 (g := (mkF m 136 #[.val (.int u0), .val (.int u1), .val (.int (u0.toUInt32.toUInt16.toUInt32.toInt32)), .val (.int ((u0.toUInt32.toUInt16.toUInt32.toInt32) ||| (32 : Int32))), .val (.int b), .val (.int (1 : Int32)), .val (.ref b9), .val (.int (6 : Int32)), .val (.int (1 : Int32)), .unset] [(.int (6 : Int32)), (.ref b9)])) rfl rfl (hb hby at_136)) ?_
      show own_Go _ _ _ _ (T17.setTop (mkF m 137 #[.val (.int u0), .val (.int u1), .val (.int (u0.toUInt32.toUInt16.toUInt32.toInt32)), .val (.int ((u0.toUInt32.toUInt16.toUInt32.toInt32) ||| (32 : Int32))), .val (.int b), .val (.int (1 : Int32)), .val (.ref b9), .val (.int (6 : Int32)), .val (.int (1 : Int32)), .unset] [(.int (122 : Int32))]))
      obtain ⟨_, _, ⟨T32, L32, k32, n32⟩, -, X32, ⟨Lc32, hQ32, l32, y32, z32⟩, st32⟩ := Jvm.LawKit.callS X17 hx (y := (⟨"com/example/handler/handler/HttpSyntax", "isLetter", "(C)Z"⟩ : MethodName)) hown (mvT hZ (hw _ (List.mem_of_getElem? (i := 0) rfl))) (mvT hZ (hw _ (List.mem_of_getElem? (i := 1) rfl))) (mvT hZ (hw _ (List.mem_of_getElem? (i := 2) rfl))) (mvT hZ (hw _ (List.mem_of_getElem? (i := 3) rfl))) (by decide) (backOf (W := 0) (rm1 l Z a0 hw [] (122 : Int32) h17 n0 Z17 ) hZ (hw _ (List.mem_of_getElem? (i := 3) rfl)) (hw _ (List.mem_of_getElem? (i := 2) rfl)) (by decide) (by decide)) (g := (mkF m 137 #[.val (.int u0), .val (.int u1), .val (.int (u0.toUInt32.toUInt16.toUInt32.toInt32)), .val (.int ((u0.toUInt32.toUInt16.toUInt32.toInt32) ||| (32 : Int32))), .val (.int b), .val (.int (1 : Int32)), .val (.ref b9), .val (.int (6 : Int32)), .val (.int (1 : Int32)), .unset] [(.int (122 : Int32))])) rfl (by rw [hml]; rfl) (argsL := [(.int (122 : Int32))]) (rest := []) (lenOf own_pd0 rfl) rfl (by show 2 * 0 + _ ≤ _; exact Nat.le_of_eq rfl) (hb hby at_137) (fun _ _ => ⟨rfl, e17, (by decide : 1 + 0 ≤ _), (by decide : 8 + 0 ≤ _)⟩)
      dsimp only [Pt.U, Pt.locs, Pt.cells, Pt.slots] at X32 l32 y32 z32 st32 hQ32
      subst l32 y32 z32
      obtain ⟨rfl, Nq32, eq32⟩ := hQ32
      have N32 := Fr.app N17 Nq32
      refine own_st st32 ?_
      show own_Go _ _ _ _ (T32.setTop (mkF m 140 #[.val (.int u0), .val (.int u1), .val (.int (u0.toUInt32.toUInt16.toUInt32.toInt32)), .val (.int ((u0.toUInt32.toUInt16.toUInt32.toInt32) ||| (32 : Int32))), .val (.int b), .val (.int (1 : Int32)), .val (.ref b9), .val (.int (6 : Int32)), .val (.int (1 : Int32)), .unset] [(.int (own_il (122 : Int32)))]))
      refine own_st (fun _ k => XS.iload X32.here hx rfl (hb hby at_140) rfl k) ?_
      show own_Go _ _ _ _ (T32.setTop (mkF m 142 #[.val (.int u0), .val (.int u1), .val (.int (u0.toUInt32.toUInt16.toUInt32.toInt32)), .val (.int ((u0.toUInt32.toUInt16.toUInt32.toInt32) ||| (32 : Int32))), .val (.int b), .val (.int (1 : Int32)), .val (.ref b9), .val (.int (6 : Int32)), .val (.int (1 : Int32)), .unset] [(.int (1 : Int32)), (.int (own_il (122 : Int32)))]))
      refine own_st (fun _ k => XS.icmpNo X32.here hx rfl (hb hby at_142) rfl (teq (by decide)).2 k) ?_
      show own_Go _ _ _ _ (T32.setTop (mkF m 145 #[.val (.int u0), .val (.int u1), .val (.int (u0.toUInt32.toUInt16.toUInt32.toInt32)), .val (.int ((u0.toUInt32.toUInt16.toUInt32.toInt32) ||| (32 : Int32))), .val (.int b), .val (.int (1 : Int32)), .val (.ref b9), .val (.int (6 : Int32)), .val (.int (1 : Int32)), .unset] []))
      refine own_st (fun _ k => XS.iconst X32.here hx rfl (hb hby at_145) k) ?_
      show own_Go _ _ _ _ (T32.setTop (mkF m 146 #[.val (.int u0), .val (.int u1), .val (.int (u0.toUInt32.toUInt16.toUInt32.toInt32)), .val (.int ((u0.toUInt32.toUInt16.toUInt32.toInt32) ||| (32 : Int32))), .val (.int b), .val (.int (1 : Int32)), .val (.ref b9), .val (.int (6 : Int32)), .val (.int (1 : Int32)), .unset] [(.int (1 : Int32))]))
      refine own_st (fun _ k => XS.goto X32.here hx rfl (pc0 := 146) (pc' := 150) rfl (hb hby at_146) (by decide) (by decide) k) ?_
      show own_Go _ _ _ _ (T32.setTop (mkF m 150 #[.val (.int u0), .val (.int u1), .val (.int (u0.toUInt32.toUInt16.toUInt32.toInt32)), .val (.int ((u0.toUInt32.toUInt16.toUInt32.toInt32) ||| (32 : Int32))), .val (.int b), .val (.int (1 : Int32)), .val (.ref b9), .val (.int (6 : Int32)), .val (.int (1 : Int32)), .unset] [(.int (1 : Int32))]))
      refine own_st (fun _ k => XS.istore X32.here hx rfl (hb hby at_150) rfl (l' := #[.val (.int u0), .val (.int u1), .val (.int (u0.toUInt32.toUInt16.toUInt32.toInt32)), .val (.int ((u0.toUInt32.toUInt16.toUInt32.toInt32) ||| (32 : Int32))), .val (.int b), .val (.int (1 : Int32)), .val (.ref b9), .val (.int (6 : Int32)), .val (.int (1 : Int32)), .val (.int (1 : Int32))]) rfl k) ?_
      show own_Go _ _ _ _ (T32.setTop (mkF m 152 #[.val (.int u0), .val (.int u1), .val (.int (u0.toUInt32.toUInt16.toUInt32.toInt32)), .val (.int ((u0.toUInt32.toUInt16.toUInt32.toInt32) ||| (32 : Int32))), .val (.int b), .val (.int (1 : Int32)), .val (.ref b9), .val (.int (6 : Int32)), .val (.int (1 : Int32)), .val (.int (1 : Int32))] []))
      refine own_st (fun _ k => XS.iload X32.here hx rfl (hb hby at_152) rfl k) ?_
      show own_Go _ _ _ _ (T32.setTop (mkF m 154 #[.val (.int u0), .val (.int u1), .val (.int (u0.toUInt32.toUInt16.toUInt32.toInt32)), .val (.int ((u0.toUInt32.toUInt16.toUInt32.toInt32) ||| (32 : Int32))), .val (.int b), .val (.int (1 : Int32)), .val (.ref b9), .val (.int (6 : Int32)), .val (.int (1 : Int32)), .val (.int (1 : Int32))] [(.int (1 : Int32))]))
      refine own_st (fun _ k => XS.ifNo X32.here hx rfl (hb hby at_154) rfl ((if0 _ _).trans (feq (by decide : ¬ ((1 : Int32) = (0 : Int32)))).1) k) ?_
      show own_Go _ _ _ _ (T32.setTop (mkF m 157 #[.val (.int u0), .val (.int u1), .val (.int (u0.toUInt32.toUInt16.toUInt32.toInt32)), .val (.int ((u0.toUInt32.toUInt16.toUInt32.toInt32) ||| (32 : Int32))), .val (.int b), .val (.int (1 : Int32)), .val (.ref b9), .val (.int (6 : Int32)), .val (.int (1 : Int32)), .val (.int (1 : Int32))] []))
      refine own_st (fun _ k => XS.iload X32.here hx rfl (hb hby at_157) rfl k) ?_
      show own_Go _ _ _ _ (T32.setTop (mkF m 159 #[.val (.int u0), .val (.int u1), .val (.int (u0.toUInt32.toUInt16.toUInt32.toInt32)), .val (.int ((u0.toUInt32.toUInt16.toUInt32.toInt32) ||| (32 : Int32))), .val (.int b), .val (.int (1 : Int32)), .val (.ref b9), .val (.int (6 : Int32)), .val (.int (1 : Int32)), .val (.int (1 : Int32))] [(.int (1 : Int32))]))
      refine own_st (fun _ k => XS.ifNo X32.here hx rfl (hb hby at_159) rfl ((if0 _ _).trans (feq (by decide : ¬ ((1 : Int32) = (0 : Int32)))).1) k) ?_
      show own_Go _ _ _ _ (T32.setTop (mkF m 162 #[.val (.int u0), .val (.int u1), .val (.int (u0.toUInt32.toUInt16.toUInt32.toInt32)), .val (.int ((u0.toUInt32.toUInt16.toUInt32.toInt32) ||| (32 : Int32))), .val (.int b), .val (.int (1 : Int32)), .val (.ref b9), .val (.int (6 : Int32)), .val (.int (1 : Int32)), .val (.int (1 : Int32))] []))
      refine own_st (fun _ k => XS.iconst X32.here hx rfl (hb hby at_162) k) ?_
      show own_Go _ _ _ _ (T32.setTop (mkF m 163 #[.val (.int u0), .val (.int u1), .val (.int (u0.toUInt32.toUInt16.toUInt32.toInt32)), .val (.int ((u0.toUInt32.toUInt16.toUInt32.toInt32) ||| (32 : Int32))), .val (.int b), .val (.int (1 : Int32)), .val (.ref b9), .val (.int (6 : Int32)), .val (.int (1 : Int32)), .val (.int (1 : Int32))] [(.int (1 : Int32))]))
      refine own_st (fun _ k => XS.goto X32.here hx rfl (pc0 := 163) (pc' := 167) rfl (hb hby at_163) (by decide) (by decide) k) ?_
      show own_Go _ _ _ _ (T32.setTop (mkF m 167 #[.val (.int u0), .val (.int u1), .val (.int (u0.toUInt32.toUInt16.toUInt32.toInt32)), .val (.int ((u0.toUInt32.toUInt16.toUInt32.toInt32) ||| (32 : Int32))), .val (.int b), .val (.int (1 : Int32)), .val (.ref b9), .val (.int (6 : Int32)), .val (.int (1 : Int32)), .val (.int (1 : Int32))] [(.int (1 : Int32))]))
      obtain ⟨fs, hr, hrun, hended, hW, hsame⟩ := X32.leave (v := some (.int (1 : Int32))) (fun h => by rw [Bd.returns] at h; cases h)
      refine own_out (retN X32 hx (t := .boolean) Bd.returns (by simp) (hb hby at_167) hr) ⟨hrun, hended, _, _, rfl, ?_, ⟨_, rfl⟩, hW, hsame.mono (by decide) (by decide)⟩
      show Q0 Z u0 u1 h0 n0 _ T32.heap _
      exact ⟨rfl, N32⟩
    · skip
      rw [hs18]
      show own_Go _ _ _ _ (T17.setTop (mkF m 100 #[.val (.int u0), .val (.int u1), .val (.int (u0.toUInt32.toUInt16.toUInt32.toInt32)), .val (.int ((u0.toUInt32.toUInt16.toUInt32.toInt32) ||| (32 : Int32))), .val (.int b), .val (.int (1 : Int32)), .val (.ref b9), .val (.int (7 : Int32)), .unset, .unset] []))
      refine own_st (fun _ k => XS.iload X17.here hx rfl (hb hby at_100) rfl k) ?_
      show own_Go _ _ _ _ (T17.setTop (mkF m 102 #[.val (.int u0), .val (.int u1), .val (.int (u0.toUInt32.toUInt16.toUInt32.toInt32)), .val (.int ((u0.toUInt32.toUInt16.toUInt32.toInt32) ||| (32 : Int32))), .val (.int b), .val (.int (1 : Int32)), .val (.ref b9), .val (.int (7 : Int32)), .unset, .unset] [(.int (7 : Int32))]))
      refine own_st (fun _ k => XS.iconst X17.here hx rfl (hb hby at_102) k) ?_
      show own_Go _ _ _ _ (T17.setTop (mkF m 103 #[.val (.int u0), .val (.int u1), .val (.int (u0.toUInt32.toUInt16.toUInt32.toInt32)), .val (.int ((u0.toUInt32.toUInt16.toUInt32.toInt32) ||| (32 : Int32))), .val (.int b), .val (.int (1 : Int32)), .val (.ref b9), .val (.int (7 : Int32)), .unset, .unset] [(.int (1 : Int32)), (.int (7 : Int32))]))
      refine own_st (fun _ k => XS.icmpNo X17.here hx rfl (hb hby at_103) rfl (feq (by decide : ¬ ((7 : Int32) = (1 : Int32)))).1 k) ?_
      show own_Go _ _ _ _ (T17.setTop (mkF m 106 #[.val (.int u0), .val (.int u1), .val (.int (u0.toUInt32.toUInt16.toUInt32.toInt32)), .val (.int ((u0.toUInt32.toUInt16.toUInt32.toInt32) ||| (32 : Int32))), .val (.int b), .val (.int (1 : Int32)), .val (.ref b9), .val (.int (7 : Int32)), .unset, .unset] []))
      refine own_st (fun _ k => XS.iload X17.here hx rfl (hb hby at_106) rfl k) ?_
      show own_Go _ _ _ _ (T17.setTop (mkF m 108 #[.val (.int u0), .val (.int u1), .val (.int (u0.toUInt32.toUInt16.toUInt32.toInt32)), .val (.int ((u0.toUInt32.toUInt16.toUInt32.toInt32) ||| (32 : Int32))), .val (.int b), .val (.int (1 : Int32)), .val (.ref b9), .val (.int (7 : Int32)), .unset, .unset] [(.int (7 : Int32))]))
      refine own_st (fun _ k => XS.iconst X17.here hx rfl (hb hby at_108) k) ?_
      show own_Go _ _ _ _ (T17.setTop (mkF m 109 #[.val (.int u0), .val (.int u1), .val (.int (u0.toUInt32.toUInt16.toUInt32.toInt32)), .val (.int ((u0.toUInt32.toUInt16.toUInt32.toInt32) ||| (32 : Int32))), .val (.int b), .val (.int (1 : Int32)), .val (.ref b9), .val (.int (7 : Int32)), .unset, .unset] [(.int (2 : Int32)), (.int (7 : Int32))]))
      refine own_st (fun _ k => XS.icmpNo X17.here hx rfl (hb hby at_109) rfl (feq (by decide : ¬ ((7 : Int32) = (2 : Int32)))).1 k) ?_
      show own_Go _ _ _ _ (T17.setTop (mkF m 112 #[.val (.int u0), .val (.int u1), .val (.int (u0.toUInt32.toUInt16.toUInt32.toInt32)), .val (.int ((u0.toUInt32.toUInt16.toUInt32.toInt32) ||| (32 : Int32))), .val (.int b), .val (.int (1 : Int32)), .val (.ref b9), .val (.int (7 : Int32)), .unset, .unset] []))
      refine own_st (fun _ k => XS.iload X17.here hx rfl (hb hby at_112) rfl k) ?_
      show own_Go _ _ _ _ (T17.setTop (mkF m 114 #[.val (.int u0), .val (.int u1), .val (.int (u0.toUInt32.toUInt16.toUInt32.toInt32)), .val (.int ((u0.toUInt32.toUInt16.toUInt32.toInt32) ||| (32 : Int32))), .val (.int b), .val (.int (1 : Int32)), .val (.ref b9), .val (.int (7 : Int32)), .unset, .unset] [(.int (7 : Int32))]))
      refine own_st (fun _ k => XS.iconst X17.here hx rfl (hb hby at_114) k) ?_
      show own_Go _ _ _ _ (T17.setTop (mkF m 115 #[.val (.int u0), .val (.int u1), .val (.int (u0.toUInt32.toUInt16.toUInt32.toInt32)), .val (.int ((u0.toUInt32.toUInt16.toUInt32.toInt32) ||| (32 : Int32))), .val (.int b), .val (.int (1 : Int32)), .val (.ref b9), .val (.int (7 : Int32)), .unset, .unset] [(.int (5 : Int32)), (.int (7 : Int32))]))
      refine own_st (fun _ k => XS.icmpNo X17.here hx rfl (hb hby at_115) rfl (feq (by decide : ¬ ((7 : Int32) = (5 : Int32)))).1 k) ?_
      show own_Go _ _ _ _ (T17.setTop (mkF m 118 #[.val (.int u0), .val (.int u1), .val (.int (u0.toUInt32.toUInt16.toUInt32.toInt32)), .val (.int ((u0.toUInt32.toUInt16.toUInt32.toInt32) ||| (32 : Int32))), .val (.int b), .val (.int (1 : Int32)), .val (.ref b9), .val (.int (7 : Int32)), .unset, .unset] []))
      refine own_st (fun _ k => XS.iload X17.here hx rfl (hb hby at_118) rfl k) ?_
      show own_Go _ _ _ _ (T17.setTop (mkF m 120 #[.val (.int u0), .val (.int u1), .val (.int (u0.toUInt32.toUInt16.toUInt32.toInt32)), .val (.int ((u0.toUInt32.toUInt16.toUInt32.toInt32) ||| (32 : Int32))), .val (.int b), .val (.int (1 : Int32)), .val (.ref b9), .val (.int (7 : Int32)), .unset, .unset] [(.int (7 : Int32))]))
      refine own_st (fun _ k => XS.bipush X17.here hx rfl (hb hby at_120) k) ?_
      show own_Go _ _ _ _ (T17.setTop (mkF m 122 #[.val (.int u0), .val (.int u1), .val (.int (u0.toUInt32.toUInt16.toUInt32.toInt32)), .val (.int ((u0.toUInt32.toUInt16.toUInt32.toInt32) ||| (32 : Int32))), .val (.int b), .val (.int (1 : Int32)), .val (.ref b9), .val (.int (7 : Int32)), .unset, .unset] [(.int (6 : Int32)), (.int (7 : Int32))]))
      refine own_st (fun _ k => XS.icmpYes X17.here hx rfl (pc0 := 122) (pc' := 129) rfl (hb hby at_122) rfl (feq (by decide : ¬ ((7 : Int32) = (6 : Int32)))).2 (by decide) (by decide) k) ?_
      show own_Go _ _ _ _ (T17.setTop (mkF m 129 #[.val (.int u0), .val (.int u1), .val (.int (u0.toUInt32.toUInt16.toUInt32.toInt32)), .val (.int ((u0.toUInt32.toUInt16.toUInt32.toInt32) ||| (32 : Int32))), .val (.int b), .val (.int (1 : Int32)), .val (.ref b9), .val (.int (7 : Int32)), .unset, .unset] []))
      refine own_st (fun _ k => XS.iconst X17.here hx rfl (hb hby at_129) k) ?_
      show own_Go _ _ _ _ (T17.setTop (mkF m 130 #[.val (.int u0), .val (.int u1), .val (.int (u0.toUInt32.toUInt16.toUInt32.toInt32)), .val (.int ((u0.toUInt32.toUInt16.toUInt32.toInt32) ||| (32 : Int32))), .val (.int b), .val (.int (1 : Int32)), .val (.ref b9), .val (.int (7 : Int32)), .unset, .unset] [(.int (0 : Int32))]))
      refine own_st (fun _ k => XS.istore X17.here hx rfl (hb hby at_130) rfl (l' := #[.val (.int u0), .val (.int u1), .val (.int (u0.toUInt32.toUInt16.toUInt32.toInt32)), .val (.int ((u0.toUInt32.toUInt16.toUInt32.toInt32) ||| (32 : Int32))), .val (.int b), .val (.int (1 : Int32)), .val (.ref b9), .val (.int (7 : Int32)), .val (.int (0 : Int32)), .unset]) rfl k) ?_
      show own_Go _ _ _ _ (T17.setTop (mkF m 132 #[.val (.int u0), .val (.int u1), .val (.int (u0.toUInt32.toUInt16.toUInt32.toInt32)), .val (.int ((u0.toUInt32.toUInt16.toUInt32.toInt32) ||| (32 : Int32))), .val (.int b), .val (.int (1 : Int32)), .val (.ref b9), .val (.int (7 : Int32)), .val (.int (0 : Int32)), .unset] []))
      refine own_st (fun _ k => XS.aload X17.here hx rfl (hb hby at_132) rfl rfl k) ?_
      show own_Go _ _ _ _ (T17.setTop (mkF m 134 #[.val (.int u0), .val (.int u1), .val (.int (u0.toUInt32.toUInt16.toUInt32.toInt32)), .val (.int ((u0.toUInt32.toUInt16.toUInt32.toInt32) ||| (32 : Int32))), .val (.int b), .val (.int (1 : Int32)), .val (.ref b9), .val (.int (7 : Int32)), .val (.int (0 : Int32)), .unset] [(.ref b9)]))
      refine own_st (fun _ k => XS.iload X17.here hx rfl (hb hby at_134) rfl k) ?_
      show own_Go _ _ _ _ (T17.setTop (mkF m 136 #[.val (.int u0), .val (.int u1), .val (.int (u0.toUInt32.toUInt16.toUInt32.toInt32)), .val (.int ((u0.toUInt32.toUInt16.toUInt32.toInt32) ||| (32 : Int32))), .val (.int b), .val (.int (1 : Int32)), .val (.ref b9), .val (.int (7 : Int32)), .val (.int (0 : Int32)), .unset] [(.int (7 : Int32)), (.ref b9)]))
      obtain ⟨cl33, Ar33, -, Sz33, Nn33, Hs33, -⟩ := id V17'
      have hin33 : ¬ ((7 : Int32) < 0 ∨ cl33.slots.size ≤ ((7 : Int32)).toNatClampNeg) := inb_of Sz33 ⟨(by decide : ¬ ((7 : Int32) < (0 : Int32))), (by decide : (7 : Int32) < (8 : Int32))⟩
      have hat33 : cl33.slots[((7 : Int32)).toNatClampNeg]? = some (.int (123 : Int32)) := Hs33.at hin33 rfl
      refine own_st (X17.caload hx (j := (7 : Int32)) (v := (.int (123 : Int32))) (by rw [e17]; exact Ar33.1) (State.isArrayOf_alike hZ.alike Ar33.2.1) Ar33.2.2 hin33 hat33 (g := (mkF m 136 #[.val (.int u0), .val (.int u1), .val (.int (u0.toUInt32.toUInt16.toUInt32.toInt32)), .val (.int ((u0.toUInt32.toUInt16.toUInt32.toInt32) ||| (32 : Int32))), .val (.int b), .val (.int (1 : Int32)), .val (.ref b9), .val (.int (7 : Int32)), .val (.int (0 : Int32)), .unset] [(.int (7 : Int32)), (.ref b9)])) rfl rfl (hb hby at_136)) ?_
      show own_Go _ _ _ _ (T17.setTop (mkF m 137 #[.val (.int u0), .val (.int u1), .val (.int (u0.toUInt32.toUInt16.toUInt32.toInt32)), .val (.int ((u0.toUInt32.toUInt16.toUInt32.toInt32) ||| (32 : Int32))), .val (.int b), .val (.int (1 : Int32)), .val (.ref b9), .val (.int (7 : Int32)), .val (.int (0 : Int32)), .unset] [(.int (123 : Int32))]))
      obtain ⟨_, _, ⟨T34, L34, k34, n34⟩, -, X34, ⟨Lc34, hQ34, l34, y34, z34⟩, st34⟩ := Jvm.LawKit.callS X17 hx (y := (⟨"com/example/handler/handler/HttpSyntax", "isLetter", "(C)Z"⟩ : MethodName)) hown (mvT hZ (hw _ (List.mem_of_getElem? (i := 0) rfl))) (mvT hZ (hw _ (List.mem_of_getElem? (i := 1) rfl))) (mvT hZ (hw _ (List.mem_of_getElem? (i := 2) rfl))) (mvT hZ (hw _ (List.mem_of_getElem? (i := 3) rfl))) (by decide) (backOf (W := 0) (rm1 l Z a0 hw [] (123 : Int32) h17 n0 Z17 ) hZ (hw _ (List.mem_of_getElem? (i := 3) rfl)) (hw _ (List.mem_of_getElem? (i := 2) rfl)) (by decide) (by decide)) (g := (mkF m 137 #[.val (.int u0), .val (.int u1), .val (.int (u0.toUInt32.toUInt16.toUInt32.toInt32)), .val (.int ((u0.toUInt32.toUInt16.toUInt32.toInt32) ||| (32 : Int32))), .val (.int b), .val (.int (1 : Int32)), .val (.ref b9), .val (.int (7 : Int32)), .val (.int (0 : Int32)), .unset] [(.int (123 : Int32))])) rfl (by rw [hml]; rfl) (argsL := [(.int (123 : Int32))]) (rest := []) (lenOf own_pd0 rfl) rfl (by show 2 * 0 + _ ≤ _; exact Nat.le_of_eq rfl) (hb hby at_137) (fun _ _ => ⟨rfl, e17, (by decide : 1 + 0 ≤ _), (by decide : 8 + 0 ≤ _)⟩)
      dsimp only [Pt.U, Pt.locs, Pt.cells, Pt.slots] at X34 l34 y34 z34 st34 hQ34
      subst l34 y34 z34
      obtain ⟨rfl, Nq34, eq34⟩ := hQ34
      have N34 := Fr.app N17 Nq34
      refine own_st st34 ?_
      show own_Go _ _ _ _ (T34.setTop (mkF m 140 #[.val (.int u0), .val (.int u1), .val (.int (u0.toUInt32.toUInt16.toUInt32.toInt32)), .val (.int ((u0.toUInt32.toUInt16.toUInt32.toInt32) ||| (32 : Int32))), .val (.int b), .val (.int (1 : Int32)), .val (.ref b9), .val (.int (7 : Int32)), .val (.int (0 : Int32)), .unset] [(.int (own_il (123 : Int32)))]))
      refine own_st (fun _ k => XS.iload X34.here hx rfl (hb hby at_140) rfl k) ?_
      show own_Go _ _ _ _ (T34.setTop (mkF m 142 #[.val (.int u0), .val (.int u1), .val (.int (u0.toUInt32.toUInt16.toUInt32.toInt32)), .val (.int ((u0.toUInt32.toUInt16.toUInt32.toInt32) ||| (32 : Int32))), .val (.int b), .val (.int (1 : Int32)), .val (.ref b9), .val (.int (7 : Int32)), .val (.int (0 : Int32)), .unset] [(.int (0 : Int32)), (.int (own_il (123 : Int32)))]))
      refine own_st (fun _ k => XS.icmpNo X34.here hx rfl (hb hby at_142) rfl (teq (by decide)).2 k) ?_
      show own_Go _ _ _ _ (T34.setTop (mkF m 145 #[.val (.int u0), .val (.int u1), .val (.int (u0.toUInt32.toUInt16.toUInt32.toInt32)), .val (.int ((u0.toUInt32.toUInt16.toUInt32.toInt32) ||| (32 : Int32))), .val (.int b), .val (.int (1 : Int32)), .val (.ref b9), .val (.int (7 : Int32)), .val (.int (0 : Int32)), .unset] []))
      refine own_st (fun _ k => XS.iconst X34.here hx rfl (hb hby at_145) k) ?_
      show own_Go _ _ _ _ (T34.setTop (mkF m 146 #[.val (.int u0), .val (.int u1), .val (.int (u0.toUInt32.toUInt16.toUInt32.toInt32)), .val (.int ((u0.toUInt32.toUInt16.toUInt32.toInt32) ||| (32 : Int32))), .val (.int b), .val (.int (1 : Int32)), .val (.ref b9), .val (.int (7 : Int32)), .val (.int (0 : Int32)), .unset] [(.int (1 : Int32))]))
      refine own_st (fun _ k => XS.goto X34.here hx rfl (pc0 := 146) (pc' := 150) rfl (hb hby at_146) (by decide) (by decide) k) ?_
      show own_Go _ _ _ _ (T34.setTop (mkF m 150 #[.val (.int u0), .val (.int u1), .val (.int (u0.toUInt32.toUInt16.toUInt32.toInt32)), .val (.int ((u0.toUInt32.toUInt16.toUInt32.toInt32) ||| (32 : Int32))), .val (.int b), .val (.int (1 : Int32)), .val (.ref b9), .val (.int (7 : Int32)), .val (.int (0 : Int32)), .unset] [(.int (1 : Int32))]))
      refine own_st (fun _ k => XS.istore X34.here hx rfl (hb hby at_150) rfl (l' := #[.val (.int u0), .val (.int u1), .val (.int (u0.toUInt32.toUInt16.toUInt32.toInt32)), .val (.int ((u0.toUInt32.toUInt16.toUInt32.toInt32) ||| (32 : Int32))), .val (.int b), .val (.int (1 : Int32)), .val (.ref b9), .val (.int (7 : Int32)), .val (.int (0 : Int32)), .val (.int (1 : Int32))]) rfl k) ?_
      show own_Go _ _ _ _ (T34.setTop (mkF m 152 #[.val (.int u0), .val (.int u1), .val (.int (u0.toUInt32.toUInt16.toUInt32.toInt32)), .val (.int ((u0.toUInt32.toUInt16.toUInt32.toInt32) ||| (32 : Int32))), .val (.int b), .val (.int (1 : Int32)), .val (.ref b9), .val (.int (7 : Int32)), .val (.int (0 : Int32)), .val (.int (1 : Int32))] []))
      refine own_st (fun _ k => XS.iload X34.here hx rfl (hb hby at_152) rfl k) ?_
      show own_Go _ _ _ _ (T34.setTop (mkF m 154 #[.val (.int u0), .val (.int u1), .val (.int (u0.toUInt32.toUInt16.toUInt32.toInt32)), .val (.int ((u0.toUInt32.toUInt16.toUInt32.toInt32) ||| (32 : Int32))), .val (.int b), .val (.int (1 : Int32)), .val (.ref b9), .val (.int (7 : Int32)), .val (.int (0 : Int32)), .val (.int (1 : Int32))] [(.int (1 : Int32))]))
      refine own_st (fun _ k => XS.ifNo X34.here hx rfl (hb hby at_154) rfl ((if0 _ _).trans (feq (by decide : ¬ ((1 : Int32) = (0 : Int32)))).1) k) ?_
      show own_Go _ _ _ _ (T34.setTop (mkF m 157 #[.val (.int u0), .val (.int u1), .val (.int (u0.toUInt32.toUInt16.toUInt32.toInt32)), .val (.int ((u0.toUInt32.toUInt16.toUInt32.toInt32) ||| (32 : Int32))), .val (.int b), .val (.int (1 : Int32)), .val (.ref b9), .val (.int (7 : Int32)), .val (.int (0 : Int32)), .val (.int (1 : Int32))] []))
      refine own_st (fun _ k => XS.iload X34.here hx rfl (hb hby at_157) rfl k) ?_
      show own_Go _ _ _ _ (T34.setTop (mkF m 159 #[.val (.int u0), .val (.int u1), .val (.int (u0.toUInt32.toUInt16.toUInt32.toInt32)), .val (.int ((u0.toUInt32.toUInt16.toUInt32.toInt32) ||| (32 : Int32))), .val (.int b), .val (.int (1 : Int32)), .val (.ref b9), .val (.int (7 : Int32)), .val (.int (0 : Int32)), .val (.int (1 : Int32))] [(.int (1 : Int32))]))
      refine own_st (fun _ k => XS.ifNo X34.here hx rfl (hb hby at_159) rfl ((if0 _ _).trans (feq (by decide : ¬ ((1 : Int32) = (0 : Int32)))).1) k) ?_
      show own_Go _ _ _ _ (T34.setTop (mkF m 162 #[.val (.int u0), .val (.int u1), .val (.int (u0.toUInt32.toUInt16.toUInt32.toInt32)), .val (.int ((u0.toUInt32.toUInt16.toUInt32.toInt32) ||| (32 : Int32))), .val (.int b), .val (.int (1 : Int32)), .val (.ref b9), .val (.int (7 : Int32)), .val (.int (0 : Int32)), .val (.int (1 : Int32))] []))
      refine own_st (fun _ k => XS.iconst X34.here hx rfl (hb hby at_162) k) ?_
      show own_Go _ _ _ _ (T34.setTop (mkF m 163 #[.val (.int u0), .val (.int u1), .val (.int (u0.toUInt32.toUInt16.toUInt32.toInt32)), .val (.int ((u0.toUInt32.toUInt16.toUInt32.toInt32) ||| (32 : Int32))), .val (.int b), .val (.int (1 : Int32)), .val (.ref b9), .val (.int (7 : Int32)), .val (.int (0 : Int32)), .val (.int (1 : Int32))] [(.int (1 : Int32))]))
      refine own_st (fun _ k => XS.goto X34.here hx rfl (pc0 := 163) (pc' := 167) rfl (hb hby at_163) (by decide) (by decide) k) ?_
      show own_Go _ _ _ _ (T34.setTop (mkF m 167 #[.val (.int u0), .val (.int u1), .val (.int (u0.toUInt32.toUInt16.toUInt32.toInt32)), .val (.int ((u0.toUInt32.toUInt16.toUInt32.toInt32) ||| (32 : Int32))), .val (.int b), .val (.int (1 : Int32)), .val (.ref b9), .val (.int (7 : Int32)), .val (.int (0 : Int32)), .val (.int (1 : Int32))] [(.int (1 : Int32))]))
      obtain ⟨fs, hr, hrun, hended, hW, hsame⟩ := X34.leave (v := some (.int (1 : Int32))) (fun h => by rw [Bd.returns] at h; cases h)
      refine own_out (retN X34 hx (t := .boolean) Bd.returns (by simp) (hb hby at_167) hr) ⟨hrun, hended, _, _, rfl, ?_, ⟨_, rfl⟩, hW, hsame.mono (by decide) (by decide)⟩
      show Q0 Z u0 u1 h0 n0 _ T34.heap _
      exact ⟨rfl, N34⟩
  · intro J7
    show own_Go _ _ _ _ (s₁.setTop (mkF m 8 #[.val (.int u0), .val (.int u1), .val (.int (u0.toUInt32.toUInt16.toUInt32.toInt32)), .val (.int ((u0.toUInt32.toUInt16.toUInt32.toInt32) ||| (32 : Int32))), .unset, .unset, .unset, .unset, .unset, .unset] []))
    refine own_st (fun _ k => XS.iloadN X0.here hx rfl (hb hby at_8) rfl k) ?_
    show own_Go _ _ _ _ (s₁.setTop (mkF m 9 #[.val (.int u0), .val (.int u1), .val (.int (u0.toUInt32.toUInt16.toUInt32.toInt32)), .val (.int ((u0.toUInt32.toUInt16.toUInt32.toInt32) ||| (32 : Int32))), .unset, .unset, .unset, .unset, .unset, .unset] [(.int ((u0.toUInt32.toUInt16.toUInt32.toInt32) ||| (32 : Int32)))]))
    refine own_st (fun _ k => XS.bipush X0.here hx rfl (hb hby at_9) k) ?_
    show own_Go _ _ _ _ (s₁.setTop (mkF m 11 #[.val (.int u0), .val (.int u1), .val (.int (u0.toUInt32.toUInt16.toUInt32.toInt32)), .val (.int ((u0.toUInt32.toUInt16.toUInt32.toInt32) ||| (32 : Int32))), .unset, .unset, .unset, .unset, .unset, .unset] [(.int (97 : Int32)), (.int ((u0.toUInt32.toUInt16.toUInt32.toInt32) ||| (32 : Int32)))]))
    by_cases hc35 : ((u0.toUInt32.toUInt16.toUInt32.toInt32) ||| (32 : Int32)) < (97 : Int32)
    · skip
      refine own_st (fun _ k => XS.icmpYes X0.here hx rfl (pc0 := 11) (pc' := 24) rfl (hb hby at_11) rfl (tlt hc35).1 (by decide) (by decide) k) ?_
      show own_Go _ _ _ _ (s₁.setTop (mkF m 24 #[.val (.int u0), .val (.int u1), .val (.int (u0.toUInt32.toUInt16.toUInt32.toInt32)), .val (.int ((u0.toUInt32.toUInt16.toUInt32.toInt32) ||| (32 : Int32))), .unset, .unset, .unset, .unset, .unset, .unset] []))
      refine own_st (fun _ k => XS.iconst X0.here hx rfl (hb hby at_24) k) ?_
      show own_Go _ _ _ _ (s₁.setTop (mkF m 25 #[.val (.int u0), .val (.int u1), .val (.int (u0.toUInt32.toUInt16.toUInt32.toInt32)), .val (.int ((u0.toUInt32.toUInt16.toUInt32.toInt32) ||| (32 : Int32))), .unset, .unset, .unset, .unset, .unset, .unset] [(.int (0 : Int32))]))
      exact J7 _ (by unfold own_fx; rw [if_pos hc35])
    · skip
      refine own_st (fun _ k => XS.icmpNo X0.here hx rfl (hb hby at_11) rfl (flt hc35).1 k) ?_
      show own_Go _ _ _ _ (s₁.setTop (mkF m 14 #[.val (.int u0), .val (.int u1), .val (.int (u0.toUInt32.toUInt16.toUInt32.toInt32)), .val (.int ((u0.toUInt32.toUInt16.toUInt32.toInt32) ||| (32 : Int32))), .unset, .unset, .unset, .unset, .unset, .unset] []))
      refine own_st (fun _ k => XS.iloadN X0.here hx rfl (hb hby at_14) rfl k) ?_
      show own_Go _ _ _ _ (s₁.setTop (mkF m 15 #[.val (.int u0), .val (.int u1), .val (.int (u0.toUInt32.toUInt16.toUInt32.toInt32)), .val (.int ((u0.toUInt32.toUInt16.toUInt32.toInt32) ||| (32 : Int32))), .unset, .unset, .unset, .unset, .unset, .unset] [(.int ((u0.toUInt32.toUInt16.toUInt32.toInt32) ||| (32 : Int32)))]))
      refine own_st (fun _ k => XS.bipush X0.here hx rfl (hb hby at_15) k) ?_
      show own_Go _ _ _ _ (s₁.setTop (mkF m 17 #[.val (.int u0), .val (.int u1), .val (.int (u0.toUInt32.toUInt16.toUInt32.toInt32)), .val (.int ((u0.toUInt32.toUInt16.toUInt32.toInt32) ||| (32 : Int32))), .unset, .unset, .unset, .unset, .unset, .unset] [(.int (122 : Int32)), (.int ((u0.toUInt32.toUInt16.toUInt32.toInt32) ||| (32 : Int32)))]))
      by_cases hc36 : (122 : Int32) < ((u0.toUInt32.toUInt16.toUInt32.toInt32) ||| (32 : Int32))
      · skip
        refine own_st (fun _ k => XS.icmpYes X0.here hx rfl (pc0 := 17) (pc' := 24) rfl (hb hby at_17) rfl (tlt hc36).2.2.1 (by decide) (by decide) k) ?_
        show own_Go _ _ _ _ (s₁.setTop (mkF m 24 #[.val (.int u0), .val (.int u1), .val (.int (u0.toUInt32.toUInt16.toUInt32.toInt32)), .val (.int ((u0.toUInt32.toUInt16.toUInt32.toInt32) ||| (32 : Int32))), .unset, .unset, .unset, .unset, .unset, .unset] []))
        refine own_st (fun _ k => XS.iconst X0.here hx rfl (hb hby at_24) k) ?_
        show own_Go _ _ _ _ (s₁.setTop (mkF m 25 #[.val (.int u0), .val (.int u1), .val (.int (u0.toUInt32.toUInt16.toUInt32.toInt32)), .val (.int ((u0.toUInt32.toUInt16.toUInt32.toInt32) ||| (32 : Int32))), .unset, .unset, .unset, .unset, .unset, .unset] [(.int (0 : Int32))]))
        exact J7 _ (by unfold own_fx; rw [if_neg hc35, if_pos hc36])
      · skip
        refine own_st (fun _ k => XS.icmpNo X0.here hx rfl (hb hby at_17) rfl (flt hc36).2.2.1 k) ?_
        show own_Go _ _ _ _ (s₁.setTop (mkF m 20 #[.val (.int u0), .val (.int u1), .val (.int (u0.toUInt32.toUInt16.toUInt32.toInt32)), .val (.int ((u0.toUInt32.toUInt16.toUInt32.toInt32) ||| (32 : Int32))), .unset, .unset, .unset, .unset, .unset, .unset] []))
        refine own_st (fun _ k => XS.iconst X0.here hx rfl (hb hby at_20) k) ?_
        show own_Go _ _ _ _ (s₁.setTop (mkF m 21 #[.val (.int u0), .val (.int u1), .val (.int (u0.toUInt32.toUInt16.toUInt32.toInt32)), .val (.int ((u0.toUInt32.toUInt16.toUInt32.toInt32) ||| (32 : Int32))), .unset, .unset, .unset, .unset, .unset, .unset] [(.int (1 : Int32))]))
        refine own_st (fun _ k => XS.goto X0.here hx rfl (pc0 := 21) (pc' := 25) rfl (hb hby at_21) (by decide) (by decide) k) ?_
        show own_Go _ _ _ _ (s₁.setTop (mkF m 25 #[.val (.int u0), .val (.int u1), .val (.int (u0.toUInt32.toUInt16.toUInt32.toInt32)), .val (.int ((u0.toUInt32.toUInt16.toUInt32.toInt32) ||| (32 : Int32))), .unset, .unset, .unset, .unset, .unset, .unset] [(.int (1 : Int32))]))
        exact J7 _ (by unfold own_fx; rw [if_neg hc35, if_neg hc36])
set_option maxRecDepth 65536 in
set_option maxHeartbeats 40000000 in
theorem comes_1 {Post : Tables → Env → Array Value → State → Outcome → State → Prop} (hpost : ∀ tb e args s v u, (limb_1_1.after args s (.returned v) u = true ∧ limb_1_2.after args s (.returned v) u = true ∧ True) → FrameEnd s (.returned v) u (Jvm.fieldLocs frame_1_writes args s ++ Jvm.arrayLocs frame_1_arrays args s ++ Jvm.staticLocs frame_1_statics s) 16 128 → Post tb e args s (.returned v) u) :
    ArmFor flags0 classFile x code maxLocals ret World_1 tables_1 room_1 Calls_1 rest_1 Pre_1 Post := by
  intro l hfl _ _ p e ha hc hk s m args below hf hA hF happ hP
  obtain ⟨hcalls, hrest, hpre⟩ := hP
  obtain ⟨-, -, -, hnamed, -, -, -, hat⟩ := (Spec.applies_iff hf).mp happ
  obtain ⟨hg, hn⟩ := and_e (Cond.before_iff.mp (show (Jvm.Cond.and given_1 narrow_1).before args s = true from hpre))
  obtain ⟨h1, h2⟩ := and_e hg
  obtain ⟨ha0, h2⟩ := and_e h2
  have ha1 := h2
  obtain ⟨w0, w1, rfl⟩ : ∃ w0 w1 : Value, args = #[w0, w1] := by
    have hs : args.size = 2 := by simpa [Cond.value, given_1] using h1
    obtain ⟨L⟩ := args
    match L, hs with
    | [w0, w1], _ => exact ⟨w0, w1, rfl⟩
  have hw := fun d (hd : d ∈ tables_1) => atoms_spec (ws := Jvm.Cond.code x code maxLocals ret :: tables_1) hat d (List.mem_cons_of_mem _ hd)
  obtain ⟨i0, ei0⟩ := is_v ha0
  obtain rfl : w0 = (.int i0) := Option.some.inj ei0
  obtain ⟨i1, ei1⟩ := is_v ha1
  obtain rfl : w1 = (.int i1) := Option.some.inj ei1
  obtain ⟨n, o, h1, h2, h3, _, L, rfl, ⟨rfl, N⟩, hq⟩ := rm0 l s _ hw tables_1 i0 i1 s.heap s.heap.size (Nat.le_refl _)  p e ha hc hk s m _ below hf ((Spec.applies_iff_loose hf).mp happ).1 ⟨rfl, State.Warmed39.refl s, rfl⟩ trivial
  refine ⟨n, _, h1, h2, h3, hpost _ _ _ _ _ _ ⟨Cond.after_iff.mpr rfl, Cond.after_iff.mpr (eq_i res_at (Term.int_eval (1)) rfl), trivial⟩ ⟨hq.1, hq.2.1, (hq.2.2.sift fun y hy => Or.inr (N y hy)).mono (by decide) (by decide)⟩⟩
theorem main_1_1 : Claimed_1_1 := comes_1 fun _ _ _ _ _ _ h hF => ⟨h.1, hF⟩
theorem main_1_2 : Claimed_1_2 := comes_1 fun _ _ _ _ _ _ h hF => ⟨h.2.1, hF⟩
end Jvm.Pilot.@@N@@
namespace Jvm.Pilot.@@N@@
open Jvm Jvm.ClassFile Sem Op Lib Jvm.Free Jvm.Stand Jvm.Pilot.@@N@@.Jvm.D
/-! MADE BY PROGRAM (witnessworld.py) out of the Statement's table words and the real class files: 11 classes; the members and pool entries that the words name. The judged class is class 1, her method 1. -/
namespace start1
open Jvm.ClassFile
def u (s : String) : CpInfo := .utf8 (stringToUtf16 s)
/-- a pool by its gaps: so many unusable entries, then the entry; so many at the end -/
def gap : Nat → List CpInfo → List CpInfo
  | 0, r => r
  | n + 1, r => .unusable :: gap n r
def poolList (es : List (Nat × CpInfo)) (last : Nat) : List CpInfo := es.foldr (fun e r => gap e.1 (e.2 :: r)) (gap last [])
def pool (es : List (Nat × CpInfo)) (last : Nat) : Array CpInfo := ⟨poolList es last⟩
def fileOf (pool : Array CpInfo) (this : Nat) (attrs : Array Attribute := #[]) (ms : Array MethodInfo := #[]) (fl : Nat := 33) (sup : Nat := 0) (ifs : Array Nat := #[]) (fds : Array FieldInfo := #[]) : ClassFile where
  minorVersion := 0
  majorVersion := 65
  constantPool := pool
  accessFlags := fl
  thisClass := this
  superClass := sup
  interfaces := ifs
  fields := fds
  methods := ms
  attributes := attrs
def plain (name : String) (sup : Option ClassId) : Class where
  name := name
  kind := .ordinary
  loader := none
  accessFlags := 33
  super := sup
  interfaces := #[]
  cf := none
  fields := #[]
  methods := #[]
  instanceTypes := #[]
  staticTypes := #[]
  resolved := #[]
  callSites := []
  init := .initialized
  statics := none
  mirror := none

def pool0 : Array CpInfo := pool [(5, u "<init>"), (0, u "()V"), (1, .class_ 10), (1, u "java/lang/Object")] 113

def k0m0 : Method := { name := "<init>", desc := "()V", sig := { parameters := [], returnType := none }, accessFlags := 1, code := none }
/-- java/lang/Object -/
def k0 : Class := { plain "java/lang/Object" none with
  accessFlags := 33
  interfaces := #[]
  cf := some (fileOf pool0 8 #[] #[{ accessFlags := 1, nameIndex := 5, descriptorIndex := 6, attributes := #[] }] 33 0 #[] #[])
  fields := #[]
  methods := #[k0m0]
  instanceTypes := #[]
  staticTypes := #[]
  resolved := Array.replicate 124 none
  statics := none }

def pool1 : Array CpInfo := pool [(2, .class_ 4), (1, u "java/lang/Object"), (0, u "<init>"), (0, u "()V"), (0, .methodref 8 9), (0, .class_ 10), (0, .nameAndType 11 12), (0, u "com/example/handler/handler/HttpSyntax"), (0, u "isLetter"), (0, u "(C)Z"), (0, .integer 2147483647), (0, .class_ 15), (0, u "com/example/handler/handler/HttpSyntaxIsLetterPinLaw"), (2, u "law"), (0, u "(II)Z")] 5

def k1m0 : Method := { name := "<init>", desc := "()V", sig := { parameters := [], returnType := none }, accessFlags := 2, code := none }
def k1c1 : Code := { maxStack := 4, maxLocals := 10, code := code, exceptionTable := #[], attributes := #[] }
def k1m1 : Method := { name := "law", desc := "(II)Z", sig := { parameters := [.int, .int], returnType := some .boolean }, accessFlags := 9, code := some k1c1 }
/-- com/example/handler/handler/HttpSyntaxIsLetterPinLaw -/
def k1 : Class := { plain "com/example/handler/handler/HttpSyntaxIsLetterPinLaw" (some 0) with
  accessFlags := 49
  interfaces := #[]
  cf := some (fileOf pool1 14 #[] #[{ accessFlags := 2, nameIndex := 5, descriptorIndex := 6, attributes := #[] }, { accessFlags := 9, nameIndex := 18, descriptorIndex := 19, attributes := #[] }] 49 2 #[] #[])
  fields := #[]
  methods := #[k1m0, k1m1]
  instanceTypes := #[]
  staticTypes := #[]
  resolved := Array.replicate 25 none
  statics := none }

def pool2 : Array CpInfo := pool [(2, .class_ 4), (1, u "java/lang/Object"), (0, u "<init>"), (0, u "()V"), (7, .class_ 16), (1, u "com/example/handler/handler/HttpSyntax"), (13, u "(C)Z"), (47, u "isLetter"), (2, u "TOKEN_CHARS"), (0, u "[Z"), (13, u "TOKEN_SYMBOLS"), (0, u "Ljava/lang/String;")] 16

def k2m0 : Method := { name := "<init>", desc := "()V", sig := { parameters := [], returnType := none }, accessFlags := 2, code := none }
def k2c1 : Code := { maxStack := 2, maxLocals := 1, code := prog_39_method_10_code, exceptionTable := #[], attributes := #[] }
def k2m1 : Method := { name := "isLetter", desc := "(C)Z", sig := { parameters := [.char], returnType := some .boolean }, accessFlags := 8, code := some k2c1 }
/-- com/example/handler/handler/HttpSyntax -/
def k2 : Class := { plain "com/example/handler/handler/HttpSyntax" (some 0) with
  accessFlags := 48
  interfaces := #[]
  cf := some (fileOf pool2 14 #[] #[{ accessFlags := 2, nameIndex := 5, descriptorIndex := 6, attributes := #[] }, { accessFlags := 8, nameIndex := 78, descriptorIndex := 30, attributes := #[] }] 48 2 #[] #[{ accessFlags := 26, nameIndex := 96, descriptorIndex := 97, attributes := #[] }, { accessFlags := 26, nameIndex := 81, descriptorIndex := 82, attributes := #[] }])
  fields := #[{ name := "TOKEN_SYMBOLS", type := (.object "java/lang/String"), accessFlags := 26, slot := 0, constantValue := 0 }, { name := "TOKEN_CHARS", type := (.array .boolean), accessFlags := 26, slot := 1, constantValue := 0 }]
  methods := #[k2m0, k2m1]
  instanceTypes := #[]
  staticTypes := #[(.object "java/lang/String"), (.array .boolean)]
  resolved := Array.replicate 114 none
  statics := none }

def pool3 : Array CpInfo := pool [(1, u "java/lang/Cloneable"), (0, .class_ 1), (0, u "java/lang/Object"), (0, .class_ 3)] 3

/-- java/lang/Cloneable -/
def k3 : Class := { plain "java/lang/Cloneable" (some 0) with
  accessFlags := 1537
  interfaces := #[]
  cf := some (fileOf pool3 2 #[] #[] 1537 4 #[] #[])
  fields := #[]
  methods := #[]
  instanceTypes := #[]
  staticTypes := #[]
  resolved := Array.replicate 8 none
  statics := none }

def pool4 : Array CpInfo := pool [(1, u "java/io/Serializable"), (0, .class_ 1), (0, u "java/lang/Object"), (0, .class_ 3)] 3

/-- java/io/Serializable -/
def k4 : Class := { plain "java/io/Serializable" (some 0) with
  accessFlags := 1537
  interfaces := #[]
  cf := some (fileOf pool4 2 #[] #[] 1537 4 #[] #[])
  fields := #[]
  methods := #[]
  instanceTypes := #[]
  staticTypes := #[]
  resolved := Array.replicate 8 none
  statics := none }

/-- the primitive byte -/
def k5 : Class := { plain "byte" none with kind := .primitive 'B', accessFlags := 0x411 }
/-- [B -/
def k6 : Class := { plain "[B" (some 0) with kind := .array 5 .byte, interfaces := #[3, 4], accessFlags := 1041 }

/-- the primitive char -/
def k7 : Class := { plain "char" none with kind := .primitive 'C', accessFlags := 0x411 }
/-- [C -/
def k8 : Class := { plain "[C" (some 0) with kind := .array 7 .char, interfaces := #[3, 4], accessFlags := 1041 }

/-- the primitive int -/
def k9 : Class := { plain "int" none with kind := .primitive 'I', accessFlags := 0x411 }
/-- [I -/
def k10 : Class := { plain "[I" (some 0) with kind := .array 9 .int, interfaces := #[3, 4], accessFlags := 1041 }

def heap : Heap := #[]
def classes : Array Class := #[k0, k1, k2, k3, k4, k5, k6, k7, k8, k9, k10]
def interned : List (Array UInt16 × Addr) := []
def slotsUsed : Nat := 0
def theMethod : MethodId := ⟨1, 1⟩
def args0 : Array Value := #[.int 5, .int 7]
def aboutOver (below : List Frame) : State where
  vm := { classes := classes, interned := interned.toArray }
  heap := heap
  slotsUsed := slotsUsed
  threads := #[{ frames := .invoking theMethod args0 :: below }]
def below0 : List Frame := [.native { method := ⟨0, 0⟩, args := #[] }]
def about1 : State := aboutOver below0
def p0 : Program := .bare "" "" ""
def e0 : Env := launch0.env 0 0 0
theorem w_frames : about1.frames = Frame.invoking theMethod args0 :: below0 := rfl
set_option maxRecDepth 65536 in
theorem w_args : argsFit about1.vm theMethod args0 = true := by decide +kernel
set_option maxRecDepth 65536 in
theorem w_heap : heapFits about1 = true := by decide +kernel
set_option maxRecDepth 65536 in
theorem w_runnable : about1.curStatus? = some .runnable := by decide +kernel
set_option maxRecDepth 65536 in
theorem w_alone : about1.alone = true := by decide +kernel
set_option maxRecDepth 65536 in
theorem w_named : about1.methodNamed? x = some theMethod := by decide +kernel
set_option maxRecDepth 65536 in
theorem w_hears : about1.hears theMethod below0 = true := by decide +kernel
set_option maxRecDepth 65536 in
theorem w_ripe : about1.ripe theMethod args0 below0 = true := by decide +kernel
theorem w_running : about1.status = .running := rfl
set_option maxRecDepth 65536 in
theorem w_room : about1.hasRoom e0.platform room_1 = true :=
  launch0.hasRoom_least _ room_1 (by decide +kernel) (by decide +kernel) (by decide +kernel) (by decide +kernel) (by decide +kernel) (by decide +kernel)
theorem allAtoms_all (ts : List Jvm.Cond) (a : Array Jvm.Value) (st : Jvm.State) : (allAtoms ts).before a st = ts.all (fun c => c.before a st) := by
  induction ts with
  | nil => rfl
  | cons c t ih =>
    show (Jvm.Cond.and c (allAtoms t)).before a st = _
    rw [Jvm.Cond.before_and, ih, List.all_cons]
def words1 : List Jvm.Cond := Jvm.Cond.code x code maxLocals ret :: tables_1
/-- a 'code' word, met by the world's own term for the bytes: nothing is compared byte by byte -/
theorem code_word {y : MethodName} {bytes : ByteArray} {mx : Nat} {rt : Option FieldType} {a : Array Value} {s : State} {m : MethodId} {meth : Method} {c : Code} (h1 : s.methodNamed? y = some m) (h2 : s.vm.method? m = some meth) (h3 : meth.code = some c) (h4 : c.code = bytes)
    (h5 : (c.maxLocals == mx && c.exceptionTable.isEmpty && decide (c.maxStack ≤ mostOperands) && decide (meth.sig.returnType = rt) && !meth.locks && decide (parseMethodDescriptor y.desc = some meth.sig)) = true) : (Jvm.Cond.code y bytes mx rt).before a s = true := by
  simp only [Bool.and_eq_true, beq_iff_eq, Bool.not_eq_true', decide_eq_true_eq] at h5
  obtain ⟨⟨⟨⟨⟨g1, g2⟩, g3⟩, g4⟩, g5⟩, g6⟩ := h5
  simp [Cond.before, Cond.holds, Cond.value, h1, h2, h3, h4, g1, g2, g3, g4, g5, g6]
def isCode : Jvm.Cond → Bool
  | .code _ _ _ _ => true
  | _ => false
theorem all_split {L : List Jvm.Cond} {P : Jvm.Cond → Bool} (h1 : L.all (fun c => isCode c || P c) = true) (h2 : ∀ c ∈ L.filter isCode, P c = true) : L.all P = true := by
  refine List.all_eq_true.mpr fun c hc => ?_
  have h := List.all_eq_true.mp h1 c hc
  rcases Bool.eq_false_or_eq_true (isCode c) with hi | hi
  · exact h2 c (List.mem_filter.mpr ⟨hc, hi⟩)
  · simpa [hi] using h
set_option maxRecDepth 65536 in
theorem w_c0 : (Jvm.Cond.code x code maxLocals ret).before args0 about1 = true := code_word (m := ⟨1, 1⟩) (meth := k1m1) (c := k1c1) (by decide +kernel) rfl rfl rfl (by decide +kernel)
set_option maxRecDepth 65536 in
theorem w_c1 : (Jvm.Cond.code ({ cls := "com/example/handler/handler/HttpSyntax", name := "isLetter", desc := "(C)Z" } : Jvm.MethodName) prog_39_method_10_code (1 : Nat) (Option.some Jvm.ClassFile.FieldType.boolean)).before args0 about1 = true := code_word (m := ⟨2, 1⟩) (meth := k2m1) (c := k2c1) (by decide +kernel) rfl rfl rfl (by decide +kernel)
def codes1 : List Jvm.Cond := [Jvm.Cond.code x code maxLocals ret, Jvm.Cond.code ({ cls := "com/example/handler/handler/HttpSyntax", name := "isLetter", desc := "(C)Z" } : Jvm.MethodName) prog_39_method_10_code (1 : Nat) (Option.some Jvm.ClassFile.FieldType.boolean)]
set_option maxRecDepth 65536 in
theorem codes_eq : words1.filter isCode = codes1 := rfl
theorem w_codes : ∀ c ∈ words1.filter isCode, c.before args0 about1 = true := by
  rw [codes_eq]
  intro c hc
  simp only [codes1, List.mem_cons, List.not_mem_nil, or_false] at hc
  rcases hc with rfl | rfl
  · exact w_c0
  · exact w_c1
set_option maxRecDepth 65536 in
theorem w_t1 : words1.all (fun c => isCode c || c.before args0 about1) = true := by decide +kernel
theorem w_tables : (allAtoms (Jvm.Cond.code x code maxLocals ret :: tables_1)).before args0 about1 = true := by
  rw [allAtoms_all]
  show words1.all (fun c => c.before args0 about1) = true
  refine all_split ?_ w_codes
  rw [w_t1]
set_option maxRecDepth 65536 in
theorem w_case : (Jvm.Cond.and given_1 narrow_1).before args0 about1 = true := by decide +kernel
theorem w_applies : (headSpec (Jvm.Cond.code x code maxLocals ret :: tables_1) room_1).applies x e0.platform about1 = true :=
  (Spec.applies_iff w_frames).mpr ⟨w_running, w_runnable, w_alone, w_named, w_hears, w_ripe, w_room, w_tables⟩
theorem atStart : AtStart classFile x code maxLocals ret World_1 tables_1 room_1 Calls_1 rest_1 Pre_1 launch0 p0 e0 about1 theMethod args0 below0 :=
  ⟨lists_1, trivial, launch0.admits_env _ _ _, launch0.least_env, fairChoices_fair.cas, fairChoices_fair.clock, w_frames, w_args, w_heap, w_applies, trivial, trivial, w_case⟩
end start1
theorem witness_1 : WitnessClaimed_1 := ⟨start1.p0, start1.e0, start1.about1, start1.theMethod, start1.args0, start1.below0, start1.atStart⟩
end Jvm.Pilot.@@N@@
