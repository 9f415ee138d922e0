import JvmDerived
import JvmDerived.Pilot.@@N@@Statement
import JvmDerived.Pilot.@@N@@Code
set_option linter.unusedVariables false
set_option linter.unusedSimpArgs false
namespace Jvm.Pilot.@@N@@
open Jvm Jvm.ClassFile Sem Op Lib Jvm.Free Jvm.Stand Jvm.LawKit Jvm.RoadKit Bundle Jvm.Pilot.@@N@@.Jvm.D
def own_Go (tb : Tables) (e : Env) (below : List Frame) (P : State → Outcome → Prop) (A : State) : Prop := ∃ s₂ o, Steps tb e below A s₂ ∧ P s₂ o
theorem own_in {tb : Tables} {e : Env} {below : List Frame} {P : State → Outcome → Prop} {A : State} (h : own_Go tb e below P A) : ∃ s₂ o, Steps tb e below A s₂ ∧ P s₂ o := h
theorem own_st {tb : Tables} {e : Env} {below : List Frame} {P : State → Outcome → Prop} {A B : State} (h : ∀ t, Steps tb e below B t → Steps tb e below A t) (k : own_Go tb e below P B) : own_Go tb e below P A := by
  obtain ⟨s₂, o, h1, h2⟩ := k
  exact ⟨s₂, o, h _ h1, h2⟩
theorem own_tr {tb : Tables} {e : Env} {below : List Frame} {P : State → Outcome → Prop} {A B : State} (h : Steps tb e below A B) (k : own_Go tb e below P B) : own_Go tb e below P A := by
  obtain ⟨s₂, o, h1, h2⟩ := k
  exact ⟨s₂, o, h.trans h1, h2⟩
theorem own_out {tb : Tables} {e : Env} {below : List Frame} {P : State → Outcome → Prop} {A B : State} {o : Outcome} (h : Steps tb e below A B) (k : P B o) : own_Go tb e below P A := ⟨B, o, h, k⟩
theorem own_join {ι : Type} {tb : Tables} {e : Env} {below : List Frame} {P : State → Outcome → Prop} {A : State} (B : ι → State) (K : ι → Prop) (hJ : ∀ b, K b → own_Go tb e below P (B b)) (h : (∀ b, K b → own_Go tb e below P (B b)) → own_Go tb e below P A) : own_Go tb e below P A := h hJ
section Own
variable {p : Program} {l : Launch} {e : Env} {R : Room} {s : State} {m : MethodId} {args : Array Value} {below : List Frame} {meth : Method} {c : Code} {T : State} {locs : List Loc} {cells slots : Nat}
theorem own_retI (X : Stand p l e R s m args below meth c T locs cells slots) (hx : p.tables.exec = Jvm.exec) {pc : Nat} {Ls : Array Slot} {z : Int32} {rest : List Value} (hret : meth.sig.returnType = some .int) (hd : decode c.code pc = .ok (.ireturn, 1)) {fs : List Frame}
    (hl : ∀ (f : JFrame) (acts : List Action), f.method = m → f.locked = none → f.entered = [] → (doReturn e (T.setTop f) acts (some (.int z))).1 = T.setFrames fs) : Steps p.tables e below (T.setTop (mkF m pc Ls (.int z :: rest))) (T.setFrames fs) := by
  have hm' : T.vm.method? m = some meth := X.method'
  have hn : narrow .int (.int z) = .int z := rfl
  show Steps p.tables e below (T.setTop { method := m, pc := pc, locals := Ls, stack := _ :: rest, locked := none }) _
  jvm_step X.here [X.here.top, hx, hd, hm', hret, hn]
  first | (intro acts; rw [hl _ acts rfl rfl rfl]) | rw [hl _ _ rfl rfl rfl]
  exact Steps.refl _
end Own
def own_pc (u0 : Int32) : Int32 := (if (3 : Int32) < u0 then (if ((u0 - (1 : Int32)) - ((u0 - (1 : Int32)) / (3 : Int32)) * (3 : Int32)) = (0 : Int32) then (1 : Int32) else (0 : Int32)) else (0 : Int32))
theorem d1_0 : decode prog_20_method_2_code 0 = .ok (.iload_n 0, 1) := by decide +kernel
theorem d1_1 : decode prog_20_method_2_code 1 = .ok (.iconst 3, 1) := by decide +kernel
theorem d1_2 : decode prog_20_method_2_code 2 = .ok (.if_icmp .le 15, 3) := by decide +kernel
theorem d1_5 : decode prog_20_method_2_code 5 = .ok (.iload_n 0, 1) := by decide +kernel
theorem d1_6 : decode prog_20_method_2_code 6 = .ok (.iconst 1, 1) := by decide +kernel
theorem d1_7 : decode prog_20_method_2_code 7 = .ok (.isub, 1) := by decide +kernel
theorem d1_8 : decode prog_20_method_2_code 8 = .ok (.iconst 3, 1) := by decide +kernel
theorem d1_9 : decode prog_20_method_2_code 9 = .ok (.irem, 1) := by decide +kernel
theorem d1_10 : decode prog_20_method_2_code 10 = .ok (.ifCond .ne 7, 3) := by decide +kernel
theorem d1_13 : decode prog_20_method_2_code 13 = .ok (.iconst 1, 1) := by decide +kernel
theorem d1_14 : decode prog_20_method_2_code 14 = .ok (.goto 4, 3) := by decide +kernel
theorem d1_17 : decode prog_20_method_2_code 17 = .ok (.iconst 0, 1) := by decide +kernel
theorem d1_18 : decode prog_20_method_2_code 18 = .ok (.ireturn, 1) := by decide +kernel
theorem own_pd0 : parseMethodDescriptor "(I)Z" = some ⟨[.int], some .boolean⟩ := by decide +kernel
theorem own_pn0 : plainName "com/example/barred_owl/barredowl/EdgeRoute" = true := by first | (simp [plainName, overriddenIn]; done) | decide +kernel
def Q1 (Z : State) (u0 : Int32) (h0 : Heap) (n0 : Nat) (v : Option Value) (h : Heap) (L : List Loc) : Prop := v = some (.int (own_pc u0)) ∧ Fr n0 L ∧ h = h0
theorem ef_1 (m : MethodId) (x0 : Int32) : entryFrame m #[(.int x0)] 1 = mkF m 0 #[.val (.int x0)] [] := by first | (simp [entryFrame, mkF, argsToLocals, Value.category]; done) | rfl
set_option maxRecDepth 65536 in
set_option maxHeartbeats 40000000 in
theorem rm1 (l : Launch) (Z : State) (a0 : Array Value) (hw : ∀ d ∈ tables_1, d.before a0 Z = true) (ws : List Jvm.Cond) (u0 : Int32) (h0 : Heap) (n0 : Nat) (Z0 : n0 ≤ h0.size)  :
    MetFree l (⟨"com/example/barred_owl/barredowl/EdgeRoute", "isPointCount", "(I)Z"⟩ : MethodName) (head1 (Jvm.Cond.code (⟨"com/example/barred_owl/barredowl/EdgeRoute", "isPointCount", "(I)Z"⟩ : MethodName) prog_20_method_2_code 1 (some .boolean) :: ws) ({ frames := 0, cells := 0, slots := 0, locals := 0 } : Room)) (fun a U => a = #[(.int u0)] ∧ Z.Warmed39 U.vm ∧ U.heap = h0) (fun _ _ _ _ _ => True) (fun _ U o U' => ∃ v L, o = .returned v ∧ Q1 Z u0 h0 n0 v U'.heap L ∧ FrameEnd U o U' L ({ frames := 0, cells := 0, slots := 0, locals := 0 } : Room).cells ({ frames := 0, cells := 0, slots := 0, locals := 0 } : Room).slots) := by
  refine MetFree.of_bodySF (plainFor_of_name own_pn0) hisR ?_
  intro p e s m args below meth c s₁ Bd hml0 hP hK
  obtain ⟨rfl, hZ, hh⟩ := hP
  have hx := Bd.exec
  have hby := Bd.bytes
  have hml : c.maxLocals = 1 := hml0
  have hown : s.vm.findClass "com/example/barred_owl/barredowl/EdgeRoute" = some m.cls := findClass_of_methodNamed Bd.named
  have hnm := (name_of_methodNamed Bd.named Bd.method).1
  have X0 : Stand p l e ({ frames := 0, cells := 0, slots := 0, locals := 0 } : Room) s m #[(.int u0)] below meth c s₁ [] 0 0 := Stand.of_body Bd
  have e0 : s₁.heap = h0 := by rw [← hh, Bd.state]; rfl
  have N0 := Fr.nil n0
  refine own_in ?_
  refine own_st (fun _ k => castTop (ef_1 m u0) k) ?_
  have K0 : Keep h0 h0 [] := Keep.refl h0 []
  show own_Go _ _ _ _ (s₁.setTop (mkF m 0 #[.val (.int u0)] []))
  refine own_st (fun _ k => XS.iloadN X0.here hx rfl (hb hby d1_0) rfl k) ?_
  show own_Go _ _ _ _ (s₁.setTop (mkF m 1 #[.val (.int u0)] [(.int u0)]))
  refine own_st (fun _ k => XS.iconst X0.here hx rfl (hb hby d1_1) k) ?_
  show own_Go _ _ _ _ (s₁.setTop (mkF m 2 #[.val (.int u0)] [(.int (3 : Int32)), (.int u0)]))
  by_cases hc1 : (3 : Int32) < u0
  · skip
    refine own_st (fun _ k => XS.icmpNo X0.here hx rfl (hb hby d1_2) rfl (tlt hc1).2.2.2 k) ?_
    show own_Go _ _ _ _ (s₁.setTop (mkF m 5 #[.val (.int u0)] []))
    refine own_st (fun _ k => XS.iloadN X0.here hx rfl (hb hby d1_5) rfl k) ?_
    show own_Go _ _ _ _ (s₁.setTop (mkF m 6 #[.val (.int u0)] [(.int u0)]))
    refine own_st (fun _ k => XS.iconst X0.here hx rfl (hb hby d1_6) k) ?_
    show own_Go _ _ _ _ (s₁.setTop (mkF m 7 #[.val (.int u0)] [(.int (1 : Int32)), (.int u0)]))
    refine own_st (fun _ k => XS.isub X0.here hx rfl (hb hby d1_7) rfl k) ?_
    show own_Go _ _ _ _ (s₁.setTop (mkF m 8 #[.val (.int u0)] [(.int (u0 - (1 : Int32)))]))
    refine own_st (fun _ k => XS.iconst X0.here hx rfl (hb hby d1_8) k) ?_
    show own_Go _ _ _ _ (s₁.setTop (mkF m 9 #[.val (.int u0)] [(.int (3 : Int32)), (.int (u0 - (1 : Int32)))]))
    refine own_st (fun _ k => XS.irem X0.here hx rfl (hb hby d1_9) rfl (by decide : ¬ ((3 : Int32) = (0 : Int32))) k) ?_
    show own_Go _ _ _ _ (s₁.setTop (mkF m 10 #[.val (.int u0)] [(.int ((u0 - (1 : Int32)) - ((u0 - (1 : Int32)) / (3 : Int32)) * (3 : Int32)))]))
    by_cases hc2 : ((u0 - (1 : Int32)) - ((u0 - (1 : Int32)) / (3 : Int32)) * (3 : Int32)) = (0 : Int32)
    · skip
      refine own_st (fun _ k => XS.ifNo X0.here hx rfl (hb hby d1_10) rfl ((if0 _ _).trans (teq hc2).2) k) ?_
      show own_Go _ _ _ _ (s₁.setTop (mkF m 13 #[.val (.int u0)] []))
      refine own_st (fun _ k => XS.iconst X0.here hx rfl (hb hby d1_13) k) ?_
      show own_Go _ _ _ _ (s₁.setTop (mkF m 14 #[.val (.int u0)] [(.int (1 : Int32))]))
      refine own_st (fun _ k => XS.goto X0.here hx rfl (pc0 := 14) (pc' := 18) rfl (hb hby d1_14) (by decide) (by decide) k) ?_
      show own_Go _ _ _ _ (s₁.setTop (mkF m 18 #[.val (.int u0)] [(.int (1 : Int32))]))
      obtain ⟨fs, hr, hrun, hended, hW, hsame⟩ := X0.leave (v := some (.int (1 : Int32))) (fun h => by rw [Bd.returns] at h; cases h)
      refine own_out (retN X0 hx (t := .boolean) Bd.returns (by simp) (hb hby d1_18) hr) ⟨hrun, hended, _, _, rfl, ?_, ⟨_, rfl⟩, hW, hsame.mono (by decide) (by decide)⟩
      show Q1 Z u0 h0 n0 _ s₁.heap _
      have hv : own_pc u0 = (1 : Int32) := by
        unfold own_pc
        rw [if_pos hc1, if_pos hc2]
      exact ⟨by rw [hv], N0, e0⟩
    · skip
      refine own_st (fun _ k => XS.ifYes X0.here hx rfl (pc0 := 10) (pc' := 17) rfl (hb hby d1_10) rfl ((if0 _ _).trans (feq hc2).2) (by decide) (by decide) k) ?_
      show own_Go _ _ _ _ (s₁.setTop (mkF m 17 #[.val (.int u0)] []))
      refine own_st (fun _ k => XS.iconst X0.here hx rfl (hb hby d1_17) k) ?_
      show own_Go _ _ _ _ (s₁.setTop (mkF m 18 #[.val (.int u0)] [(.int (0 : Int32))]))
      obtain ⟨fs, hr, hrun, hended, hW, hsame⟩ := X0.leave (v := some (.int (0 : Int32))) (fun h => by rw [Bd.returns] at h; cases h)
      refine own_out (retN X0 hx (t := .boolean) Bd.returns (by simp) (hb hby d1_18) hr) ⟨hrun, hended, _, _, rfl, ?_, ⟨_, rfl⟩, hW, hsame.mono (by decide) (by decide)⟩
      show Q1 Z u0 h0 n0 _ s₁.heap _
      have hv : own_pc u0 = (0 : Int32) := by
        unfold own_pc
        rw [if_pos hc1, if_neg hc2]
      exact ⟨by rw [hv], N0, e0⟩
  · skip
    refine own_st (fun _ k => XS.icmpYes X0.here hx rfl (pc0 := 2) (pc' := 17) rfl (hb hby d1_2) rfl (flt hc1).2.2.2 (by decide) (by decide) k) ?_
    show own_Go _ _ _ _ (s₁.setTop (mkF m 17 #[.val (.int u0)] []))
    refine own_st (fun _ k => XS.iconst X0.here hx rfl (hb hby d1_17) k) ?_
    show own_Go _ _ _ _ (s₁.setTop (mkF m 18 #[.val (.int u0)] [(.int (0 : Int32))]))
    obtain ⟨fs, hr, hrun, hended, hW, hsame⟩ := X0.leave (v := some (.int (0 : Int32))) (fun h => by rw [Bd.returns] at h; cases h)
    refine own_out (retN X0 hx (t := .boolean) Bd.returns (by simp) (hb hby d1_18) hr) ⟨hrun, hended, _, _, rfl, ?_, ⟨_, rfl⟩, hW, hsame.mono (by decide) (by decide)⟩
    show Q1 Z u0 h0 n0 _ s₁.heap _
    have hv : own_pc u0 = (0 : Int32) := by
      unfold own_pc
      rw [if_neg hc1]
    exact ⟨by rw [hv], N0, e0⟩
theorem own_div3 (u : Int32) : (0 ≤ u.toInt → (u / (3 : Int32)).toInt = u.toInt / 3) ∧ (u.toInt < 0 → (u / (3 : Int32)).toInt = -((-u.toInt) / 3)) := c_idiv u 3 3 rfl (by decide)
theorem own_rem (u : Int32) (h : (3 : Int32) < u) : ((u - (1 : Int32)) - ((u - (1 : Int32)) / (3 : Int32)) * (3 : Int32)).toInt = (u.toInt - 1) % 3 := by
  simp only [Int32.lt_iff_toInt_lt, Int32.reduceToInt] at h
  have r := rng32 u
  have h1 := c_isub u 1
  have r1 := rng32 (u - 1)
  simp only [Int32.reduceToInt] at h1
  have e1 : (u - 1).toInt = u.toInt - 1 := by omega
  have d := (own_div3 (u - 1)).1 (by omega)
  have h2 := c_imul ((u - 1) / 3) 3
  have r2 := rng32 (((u - 1) / 3) * 3)
  have h3 := c_isub (u - 1) (((u - 1) / 3) * 3)
  have r3 := rng32 ((u - 1) - ((u - 1) / 3) * 3)
  simp only [Int32.reduceToInt] at h2
  rw [d, e1] at h2
  omega
theorem own_k (u : Int32) (h : (3 : Int32) < u) : ((3 : Int32) * (u / (3 : Int32)) + (1 : Int32)).toInt = 3 * (u.toInt / 3) + 1 := by
  simp only [Int32.lt_iff_toInt_lt, Int32.reduceToInt] at h
  have r := rng32 u
  have d := (own_div3 u).1 (by omega)
  have h2 := c_imul 3 (u / 3)
  have r2 := rng32 (3 * (u / 3))
  have h3 := c_iadd (3 * (u / 3)) 1
  have r3 := rng32 (3 * (u / 3) + 1)
  simp only [Int32.reduceToInt] at h2 h3
  rw [d] at h2
  omega
theorem own_a (u : Int32) (h : u / (3 : Int32) < (1 : Int32)) : own_pc u = (0 : Int32) := by
  unfold own_pc
  have d := own_div3 u
  rw [if_neg]
  intro q
  simp only [Int32.lt_iff_toInt_lt, Int32.reduceToInt] at h q
  omega
theorem own_b (u : Int32) (h : ¬ u / (3 : Int32) < (1 : Int32)) (g : u = (3 : Int32) * (u / (3 : Int32)) + (1 : Int32)) : own_pc u = (1 : Int32) := by
  unfold own_pc
  have d := own_div3 u
  have q : (3 : Int32) < u := by
    simp only [Int32.lt_iff_toInt_lt, Int32.reduceToInt] at h ⊢
    by_cases z : u.toInt < 3
    · omega
    · by_cases z3 : u.toInt = 3
      · have : u = 3 := Int32.toInt_inj.mp z3
        subst this; exact absurd g (by decide)
      · omega
  rw [if_pos q]
  have k := own_k u q
  have r := own_rem u q
  rw [if_pos]
  apply Int32.toInt_inj.mp
  rw [r]
  have g' := congrArg Int32.toInt g
  rw [k] at g'
  simp only [Int32.reduceToInt]
  omega
theorem own_c (u : Int32) (h : ¬ u / (3 : Int32) < (1 : Int32)) (g : ¬ u = (3 : Int32) * (u / (3 : Int32)) + (1 : Int32)) : own_pc u = (0 : Int32) := by
  unfold own_pc
  by_cases q : (3 : Int32) < u
  · rw [if_pos q, if_neg]
    intro z
    apply g
    apply Int32.toInt_inj.mp
    rw [own_k u q]
    have z' := congrArg Int32.toInt z
    rw [own_rem u q] at z'
    simp only [Int32.reduceToInt] at z'
    omega
  · rw [if_neg q]
theorem own_pn1 : plainName "com/example/barred_owl/barredowl/EdgeRouteIsPointCountPinLaw" = true := by first | (simp [plainName, overriddenIn]; done) | decide +kernel
def Q0 (Z : State) (u0 : Int32) (h0 : Heap) (n0 : Nat) (v : Option Value) (h : Heap) (L : List Loc) : Prop := v = some (.int 1) ∧ Fr n0 L
theorem ef_0 (m : MethodId) (x0 : Int32) : entryFrame m #[(.int x0)] maxLocals = mkF m 0 #[.val (.int x0), .unset, .unset] [] := by first | (simp [entryFrame, mkF, argsToLocals, Value.category, maxLocals]; done) | rfl
set_option maxRecDepth 65536 in
set_option maxHeartbeats 40000000 in
theorem rm0 (l : Launch) (Z : State) (a0 : Array Value) (hw : ∀ d ∈ tables_1, d.before a0 Z = true) (ws : List Jvm.Cond) (u0 : Int32) (h0 : Heap) (n0 : Nat) (Z0 : n0 ≤ h0.size)  :
    MetFree l x (head1 (Jvm.Cond.code x code maxLocals ret :: ws) room_1) (fun a U => a = #[(.int u0)] ∧ Z.Warmed39 U.vm ∧ U.heap = h0) (fun _ _ _ _ _ => True) (fun _ U o U' => ∃ v L, o = .returned v ∧ Q0 Z u0 h0 n0 v U'.heap L ∧ FrameEnd U o U' L 0 0) := by
  refine MetFree.of_bodySF (plainFor_of_name own_pn1) hisR ?_
  intro p e s m args below meth c s₁ Bd hml0 hP hK
  obtain ⟨rfl, hZ, hh⟩ := hP
  have hx := Bd.exec
  have hby := Bd.bytes
  have hml : c.maxLocals = 3 := hml0
  have hown : s.vm.findClass "com/example/barred_owl/barredowl/EdgeRouteIsPointCountPinLaw" = some m.cls := findClass_of_methodNamed Bd.named
  have hnm := (name_of_methodNamed Bd.named Bd.method).1
  have X0 : Stand p l e room_1 s m #[(.int u0)] below meth c s₁ [] 0 0 := Stand.of_body Bd
  have e0 : s₁.heap = h0 := by rw [← hh, Bd.state]; rfl
  have N0 := Fr.nil n0
  refine own_in ?_
  refine own_st (fun _ k => castTop (ef_0 m u0) k) ?_
  have K0 : Keep h0 h0 [] := Keep.refl h0 []
  show own_Go _ _ _ _ (s₁.setTop (mkF m 0 #[.val (.int u0), .unset, .unset] []))
  refine own_st (fun _ k => XS.iloadN X0.here hx rfl (hb hby at_0) rfl k) ?_
  show own_Go _ _ _ _ (s₁.setTop (mkF m 1 #[.val (.int u0), .unset, .unset] [(.int u0)]))
  refine own_st (fun _ k => XS.iconst X0.here hx rfl (hb hby at_1) k) ?_
  show own_Go _ _ _ _ (s₁.setTop (mkF m 2 #[.val (.int u0), .unset, .unset] [(.int (3 : Int32)), (.int u0)]))
  refine own_st (fun _ k => XS.idiv X0.here hx rfl (hb hby at_2) rfl (by decide : ¬ ((3 : Int32) = (0 : Int32))) k) ?_
  show own_Go _ _ _ _ (s₁.setTop (mkF m 3 #[.val (.int u0), .unset, .unset] [(.int (u0 / (3 : Int32)))]))
  refine own_st (fun _ k => XS.istoreN X0.here hx rfl (hb hby at_3) rfl (l' := #[.val (.int u0), .val (.int (u0 / (3 : Int32))), .unset]) rfl k) ?_
  show own_Go _ _ _ _ (s₁.setTop (mkF m 4 #[.val (.int u0), .val (.int (u0 / (3 : Int32))), .unset] []))
  refine own_st (fun _ k => XS.iloadN X0.here hx rfl (hb hby at_4) rfl k) ?_
  show own_Go _ _ _ _ (s₁.setTop (mkF m 5 #[.val (.int u0), .val (.int (u0 / (3 : Int32))), .unset] [(.int (u0 / (3 : Int32)))]))
  refine own_st (fun _ k => XS.iconst X0.here hx rfl (hb hby at_5) k) ?_
  show own_Go _ _ _ _ (s₁.setTop (mkF m 6 #[.val (.int u0), .val (.int (u0 / (3 : Int32))), .unset] [(.int (1 : Int32)), (.int (u0 / (3 : Int32)))]))
  by_cases hc3 : (u0 / (3 : Int32)) < (1 : Int32)
  · skip
    refine own_st (fun _ k => XS.icmpYes X0.here hx rfl (pc0 := 6) (pc' := 22) rfl (hb hby at_6) rfl (tlt hc3).1 (by decide) (by decide) k) ?_
    show own_Go _ _ _ _ (s₁.setTop (mkF m 22 #[.val (.int u0), .val (.int (u0 / (3 : Int32))), .unset] []))
    refine own_st (fun _ k => XS.iconst X0.here hx rfl (hb hby at_22) k) ?_
    show own_Go _ _ _ _ (s₁.setTop (mkF m 23 #[.val (.int u0), .val (.int (u0 / (3 : Int32))), .unset] [(.int (0 : Int32))]))
    refine own_st (fun _ k => XS.istoreN X0.here hx rfl (hb hby at_23) rfl (l' := #[.val (.int u0), .val (.int (u0 / (3 : Int32))), .val (.int (0 : Int32))]) rfl k) ?_
    show own_Go _ _ _ _ (s₁.setTop (mkF m 24 #[.val (.int u0), .val (.int (u0 / (3 : Int32))), .val (.int (0 : Int32))] []))
    refine own_st (fun _ k => XS.iloadN X0.here hx rfl (hb hby at_24) rfl k) ?_
    show own_Go _ _ _ _ (s₁.setTop (mkF m 25 #[.val (.int u0), .val (.int (u0 / (3 : Int32))), .val (.int (0 : Int32))] [(.int u0)]))
    obtain ⟨_, _, ⟨T4, L4, k4, n4⟩, -, X4, ⟨Lc4, hQ4, l4, y4, z4⟩, st4⟩ := Jvm.LawKit.callS X0 hx (y := (⟨"com/example/barred_owl/barredowl/EdgeRoute", "isPointCount", "(I)Z"⟩ : MethodName)) hown (mvT hZ (hw _ (List.mem_of_getElem? (i := 0) rfl))) (mvT hZ (hw _ (List.mem_of_getElem? (i := 1) rfl))) (mvT hZ (hw _ (List.mem_of_getElem? (i := 2) rfl))) (mvT hZ (hw _ (List.mem_of_getElem? (i := 3) rfl))) (by decide) (backOf (W := 0) (rm1 l Z a0 hw [] u0 h0 n0 Z0 ) hZ (hw _ (List.mem_of_getElem? (i := 3) rfl)) (hw _ (List.mem_of_getElem? (i := 2) rfl)) (by decide) (by decide)) (g := (mkF m 25 #[.val (.int u0), .val (.int (u0 / (3 : Int32))), .val (.int (0 : Int32))] [(.int u0)])) rfl (by rw [hml]; rfl) (argsL := [(.int u0)]) (rest := []) (lenOf own_pd0 rfl) rfl (by show 2 * 0 + _ ≤ _; exact Nat.le_of_eq rfl) (hb hby at_25) (fun _ _ => ⟨rfl, e0, (by decide : 0 + 0 ≤ _), (by decide : 0 + 0 ≤ _)⟩)
    dsimp only [Pt.U, Pt.locs, Pt.cells, Pt.slots] at X4 l4 y4 z4 st4 hQ4
    subst l4 y4 z4
    obtain ⟨rfl, Nq4, eq4⟩ := hQ4
    have N4 := Fr.app N0 Nq4
    refine own_st st4 ?_
    show own_Go _ _ _ _ (T4.setTop (mkF m 28 #[.val (.int u0), .val (.int (u0 / (3 : Int32))), .val (.int (0 : Int32))] [(.int (own_pc u0))]))
    refine own_st (fun _ k => XS.iloadN X4.here hx rfl (hb hby at_28) rfl k) ?_
    show own_Go _ _ _ _ (T4.setTop (mkF m 29 #[.val (.int u0), .val (.int (u0 / (3 : Int32))), .val (.int (0 : Int32))] [(.int (0 : Int32)), (.int (own_pc u0))]))
    refine own_st (fun _ k => XS.icmpNo X4.here hx rfl (hb hby at_29) rfl (teq (own_a _ hc3)).2 k) ?_
    show own_Go _ _ _ _ (T4.setTop (mkF m 32 #[.val (.int u0), .val (.int (u0 / (3 : Int32))), .val (.int (0 : Int32))] []))
    refine own_st (fun _ k => XS.iconst X4.here hx rfl (hb hby at_32) k) ?_
    show own_Go _ _ _ _ (T4.setTop (mkF m 33 #[.val (.int u0), .val (.int (u0 / (3 : Int32))), .val (.int (0 : Int32))] [(.int (1 : Int32))]))
    refine own_st (fun _ k => XS.goto X4.here hx rfl (pc0 := 33) (pc' := 37) rfl (hb hby at_33) (by decide) (by decide) k) ?_
    show own_Go _ _ _ _ (T4.setTop (mkF m 37 #[.val (.int u0), .val (.int (u0 / (3 : Int32))), .val (.int (0 : Int32))] [(.int (1 : Int32))]))
    obtain ⟨fs, hr, hrun, hended, hW, hsame⟩ := X4.leave (v := some (.int (1 : Int32))) (fun h => by rw [Bd.returns] at h; cases h)
    refine own_out (retN X4 hx (t := .boolean) Bd.returns (by simp) (hb hby at_37) hr) ⟨hrun, hended, _, _, rfl, ?_, ⟨_, rfl⟩, hW, hsame.mono (by decide) (by decide)⟩
    show Q0 Z u0 h0 n0 _ T4.heap _
    exact ⟨rfl, N4⟩
  · skip
    refine own_st (fun _ k => XS.icmpNo X0.here hx rfl (hb hby at_6) rfl (flt hc3).1 k) ?_
    show own_Go _ _ _ _ (s₁.setTop (mkF m 9 #[.val (.int u0), .val (.int (u0 / (3 : Int32))), .unset] []))
    refine own_st (fun _ k => XS.iloadN X0.here hx rfl (hb hby at_9) rfl k) ?_
    show own_Go _ _ _ _ (s₁.setTop (mkF m 10 #[.val (.int u0), .val (.int (u0 / (3 : Int32))), .unset] [(.int u0)]))
    refine own_st (fun _ k => XS.iconst X0.here hx rfl (hb hby at_10) k) ?_
    show own_Go _ _ _ _ (s₁.setTop (mkF m 11 #[.val (.int u0), .val (.int (u0 / (3 : Int32))), .unset] [(.int (3 : Int32)), (.int u0)]))
    refine own_st (fun _ k => XS.iloadN X0.here hx rfl (hb hby at_11) rfl k) ?_
    show own_Go _ _ _ _ (s₁.setTop (mkF m 12 #[.val (.int u0), .val (.int (u0 / (3 : Int32))), .unset] [(.int (u0 / (3 : Int32))), (.int (3 : Int32)), (.int u0)]))
    refine own_st (fun _ k => XS.imul X0.here hx rfl (hb hby at_12) rfl k) ?_
    show own_Go _ _ _ _ (s₁.setTop (mkF m 13 #[.val (.int u0), .val (.int (u0 / (3 : Int32))), .unset] [(.int ((3 : Int32) * (u0 / (3 : Int32)))), (.int u0)]))
    refine own_st (fun _ k => XS.iconst X0.here hx rfl (hb hby at_13) k) ?_
    show own_Go _ _ _ _ (s₁.setTop (mkF m 14 #[.val (.int u0), .val (.int (u0 / (3 : Int32))), .unset] [(.int (1 : Int32)), (.int ((3 : Int32) * (u0 / (3 : Int32)))), (.int u0)]))
    refine own_st (fun _ k => XS.iadd X0.here hx rfl (hb hby at_14) rfl k) ?_
    show own_Go _ _ _ _ (s₁.setTop (mkF m 15 #[.val (.int u0), .val (.int (u0 / (3 : Int32))), .unset] [(.int (((3 : Int32) * (u0 / (3 : Int32))) + (1 : Int32))), (.int u0)]))
    by_cases hc5 : u0 = (((3 : Int32) * (u0 / (3 : Int32))) + (1 : Int32))
    · skip
      refine own_st (fun _ k => XS.icmpNo X0.here hx rfl (hb hby at_15) rfl (teq hc5).2 k) ?_
      show own_Go _ _ _ _ (s₁.setTop (mkF m 18 #[.val (.int u0), .val (.int (u0 / (3 : Int32))), .unset] []))
      refine own_st (fun _ k => XS.iconst X0.here hx rfl (hb hby at_18) k) ?_
      show own_Go _ _ _ _ (s₁.setTop (mkF m 19 #[.val (.int u0), .val (.int (u0 / (3 : Int32))), .unset] [(.int (1 : Int32))]))
      refine own_st (fun _ k => XS.goto X0.here hx rfl (pc0 := 19) (pc' := 23) rfl (hb hby at_19) (by decide) (by decide) k) ?_
      show own_Go _ _ _ _ (s₁.setTop (mkF m 23 #[.val (.int u0), .val (.int (u0 / (3 : Int32))), .unset] [(.int (1 : Int32))]))
      refine own_st (fun _ k => XS.istoreN X0.here hx rfl (hb hby at_23) rfl (l' := #[.val (.int u0), .val (.int (u0 / (3 : Int32))), .val (.int (1 : Int32))]) rfl k) ?_
      show own_Go _ _ _ _ (s₁.setTop (mkF m 24 #[.val (.int u0), .val (.int (u0 / (3 : Int32))), .val (.int (1 : Int32))] []))
      refine own_st (fun _ k => XS.iloadN X0.here hx rfl (hb hby at_24) rfl k) ?_
      show own_Go _ _ _ _ (s₁.setTop (mkF m 25 #[.val (.int u0), .val (.int (u0 / (3 : Int32))), .val (.int (1 : Int32))] [(.int u0)]))
      obtain ⟨_, _, ⟨T6, L6, k6, n6⟩, -, X6, ⟨Lc6, hQ6, l6, y6, z6⟩, st6⟩ := Jvm.LawKit.callS X0 hx (y := (⟨"com/example/barred_owl/barredowl/EdgeRoute", "isPointCount", "(I)Z"⟩ : MethodName)) hown (mvT hZ (hw _ (List.mem_of_getElem? (i := 0) rfl))) (mvT hZ (hw _ (List.mem_of_getElem? (i := 1) rfl))) (mvT hZ (hw _ (List.mem_of_getElem? (i := 2) rfl))) (mvT hZ (hw _ (List.mem_of_getElem? (i := 3) rfl))) (by decide) (backOf (W := 0) (rm1 l Z a0 hw [] u0 h0 n0 Z0 ) hZ (hw _ (List.mem_of_getElem? (i := 3) rfl)) (hw _ (List.mem_of_getElem? (i := 2) rfl)) (by decide) (by decide)) (g := (mkF m 25 #[.val (.int u0), .val (.int (u0 / (3 : Int32))), .val (.int (1 : Int32))] [(.int u0)])) rfl (by rw [hml]; rfl) (argsL := [(.int u0)]) (rest := []) (lenOf own_pd0 rfl) rfl (by show 2 * 0 + _ ≤ _; exact Nat.le_of_eq rfl) (hb hby at_25) (fun _ _ => ⟨rfl, e0, (by decide : 0 + 0 ≤ _), (by decide : 0 + 0 ≤ _)⟩)
      dsimp only [Pt.U, Pt.locs, Pt.cells, Pt.slots] at X6 l6 y6 z6 st6 hQ6
      subst l6 y6 z6
      obtain ⟨rfl, Nq6, eq6⟩ := hQ6
      have N6 := Fr.app N0 Nq6
      refine own_st st6 ?_
      show own_Go _ _ _ _ (T6.setTop (mkF m 28 #[.val (.int u0), .val (.int (u0 / (3 : Int32))), .val (.int (1 : Int32))] [(.int (own_pc u0))]))
      refine own_st (fun _ k => XS.iloadN X6.here hx rfl (hb hby at_28) rfl k) ?_
      show own_Go _ _ _ _ (T6.setTop (mkF m 29 #[.val (.int u0), .val (.int (u0 / (3 : Int32))), .val (.int (1 : Int32))] [(.int (1 : Int32)), (.int (own_pc u0))]))
      refine own_st (fun _ k => XS.icmpNo X6.here hx rfl (hb hby at_29) rfl (teq (own_b _ hc3 hc5)).2 k) ?_
      show own_Go _ _ _ _ (T6.setTop (mkF m 32 #[.val (.int u0), .val (.int (u0 / (3 : Int32))), .val (.int (1 : Int32))] []))
      refine own_st (fun _ k => XS.iconst X6.here hx rfl (hb hby at_32) k) ?_
      show own_Go _ _ _ _ (T6.setTop (mkF m 33 #[.val (.int u0), .val (.int (u0 / (3 : Int32))), .val (.int (1 : Int32))] [(.int (1 : Int32))]))
      refine own_st (fun _ k => XS.goto X6.here hx rfl (pc0 := 33) (pc' := 37) rfl (hb hby at_33) (by decide) (by decide) k) ?_
      show own_Go _ _ _ _ (T6.setTop (mkF m 37 #[.val (.int u0), .val (.int (u0 / (3 : Int32))), .val (.int (1 : Int32))] [(.int (1 : Int32))]))
      obtain ⟨fs, hr, hrun, hended, hW, hsame⟩ := X6.leave (v := some (.int (1 : Int32))) (fun h => by rw [Bd.returns] at h; cases h)
      refine own_out (retN X6 hx (t := .boolean) Bd.returns (by simp) (hb hby at_37) hr) ⟨hrun, hended, _, _, rfl, ?_, ⟨_, rfl⟩, hW, hsame.mono (by decide) (by decide)⟩
      show Q0 Z u0 h0 n0 _ T6.heap _
      exact ⟨rfl, N6⟩
    · skip
      refine own_st (fun _ k => XS.icmpYes X0.here hx rfl (pc0 := 15) (pc' := 22) rfl (hb hby at_15) rfl (feq hc5).2 (by decide) (by decide) k) ?_
      show own_Go _ _ _ _ (s₁.setTop (mkF m 22 #[.val (.int u0), .val (.int (u0 / (3 : Int32))), .unset] []))
      refine own_st (fun _ k => XS.iconst X0.here hx rfl (hb hby at_22) k) ?_
      show own_Go _ _ _ _ (s₁.setTop (mkF m 23 #[.val (.int u0), .val (.int (u0 / (3 : Int32))), .unset] [(.int (0 : Int32))]))
      refine own_st (fun _ k => XS.istoreN X0.here hx rfl (hb hby at_23) rfl (l' := #[.val (.int u0), .val (.int (u0 / (3 : Int32))), .val (.int (0 : Int32))]) rfl k) ?_
      show own_Go _ _ _ _ (s₁.setTop (mkF m 24 #[.val (.int u0), .val (.int (u0 / (3 : Int32))), .val (.int (0 : Int32))] []))
      refine own_st (fun _ k => XS.iloadN X0.here hx rfl (hb hby at_24) rfl k) ?_
      show own_Go _ _ _ _ (s₁.setTop (mkF m 25 #[.val (.int u0), .val (.int (u0 / (3 : Int32))), .val (.int (0 : Int32))] [(.int u0)]))
      obtain ⟨_, _, ⟨T7, L7, k7, n7⟩, -, X7, ⟨Lc7, hQ7, l7, y7, z7⟩, st7⟩ := Jvm.LawKit.callS X0 hx (y := (⟨"com/example/barred_owl/barredowl/EdgeRoute", "isPointCount", "(I)Z"⟩ : MethodName)) hown (mvT hZ (hw _ (List.mem_of_getElem? (i := 0) rfl))) (mvT hZ (hw _ (List.mem_of_getElem? (i := 1) rfl))) (mvT hZ (hw _ (List.mem_of_getElem? (i := 2) rfl))) (mvT hZ (hw _ (List.mem_of_getElem? (i := 3) rfl))) (by decide) (backOf (W := 0) (rm1 l Z a0 hw [] u0 h0 n0 Z0 ) hZ (hw _ (List.mem_of_getElem? (i := 3) rfl)) (hw _ (List.mem_of_getElem? (i := 2) rfl)) (by decide) (by decide)) (g := (mkF m 25 #[.val (.int u0), .val (.int (u0 / (3 : Int32))), .val (.int (0 : Int32))] [(.int u0)])) rfl (by rw [hml]; rfl) (argsL := [(.int u0)]) (rest := []) (lenOf own_pd0 rfl) rfl (by show 2 * 0 + _ ≤ _; exact Nat.le_of_eq rfl) (hb hby at_25) (fun _ _ => ⟨rfl, e0, (by decide : 0 + 0 ≤ _), (by decide : 0 + 0 ≤ _)⟩)
      dsimp only [Pt.U, Pt.locs, Pt.cells, Pt.slots] at X7 l7 y7 z7 st7 hQ7
      subst l7 y7 z7
      obtain ⟨rfl, Nq7, eq7⟩ := hQ7
      have N7 := Fr.app N0 Nq7
      refine own_st st7 ?_
      show own_Go _ _ _ _ (T7.setTop (mkF m 28 #[.val (.int u0), .val (.int (u0 / (3 : Int32))), .val (.int (0 : Int32))] [(.int (own_pc u0))]))
      refine own_st (fun _ k => XS.iloadN X7.here hx rfl (hb hby at_28) rfl k) ?_
      show own_Go _ _ _ _ (T7.setTop (mkF m 29 #[.val (.int u0), .val (.int (u0 / (3 : Int32))), .val (.int (0 : Int32))] [(.int (0 : Int32)), (.int (own_pc u0))]))
      refine own_st (fun _ k => XS.icmpNo X7.here hx rfl (hb hby at_29) rfl (teq (own_c _ hc3 hc5)).2 k) ?_
      show own_Go _ _ _ _ (T7.setTop (mkF m 32 #[.val (.int u0), .val (.int (u0 / (3 : Int32))), .val (.int (0 : Int32))] []))
      refine own_st (fun _ k => XS.iconst X7.here hx rfl (hb hby at_32) k) ?_
      show own_Go _ _ _ _ (T7.setTop (mkF m 33 #[.val (.int u0), .val (.int (u0 / (3 : Int32))), .val (.int (0 : Int32))] [(.int (1 : Int32))]))
      refine own_st (fun _ k => XS.goto X7.here hx rfl (pc0 := 33) (pc' := 37) rfl (hb hby at_33) (by decide) (by decide) k) ?_
      show own_Go _ _ _ _ (T7.setTop (mkF m 37 #[.val (.int u0), .val (.int (u0 / (3 : Int32))), .val (.int (0 : Int32))] [(.int (1 : Int32))]))
      obtain ⟨fs, hr, hrun, hended, hW, hsame⟩ := X7.leave (v := some (.int (1 : Int32))) (fun h => by rw [Bd.returns] at h; cases h)
      refine own_out (retN X7 hx (t := .boolean) Bd.returns (by simp) (hb hby at_37) hr) ⟨hrun, hended, _, _, rfl, ?_, ⟨_, rfl⟩, hW, hsame.mono (by decide) (by decide)⟩
      show Q0 Z u0 h0 n0 _ T7.heap _
      exact ⟨rfl, N7⟩
set_option maxRecDepth 65536 in
set_option maxHeartbeats 40000000 in
theorem comes_1 {Post : Tables → Env → Array Value → State → Outcome → State → Prop} (hpost : ∀ tb e args s v u, (limb_1_1.after args s (.returned v) u = true ∧ limb_1_2.after args s (.returned v) u = true ∧ True) → FrameEnd s (.returned v) u (Jvm.fieldLocs frame_1_writes args s ++ Jvm.arrayLocs frame_1_arrays args s ++ Jvm.staticLocs frame_1_statics s) 0 0 → Post tb e args s (.returned v) u) :
    ArmFor flags0 classFile x code maxLocals ret World_1 tables_1 room_1 Calls_1 rest_1 Pre_1 Post := by
  intro l hfl _ _ p e ha hc hk s m args below hf hA hF happ hP
  obtain ⟨hcalls, hrest, hpre⟩ := hP
  obtain ⟨-, -, -, hnamed, -, -, -, hat⟩ := (Spec.applies_iff hf).mp happ
  obtain ⟨hg, hn⟩ := and_e (Cond.before_iff.mp (show (Jvm.Cond.and given_1 narrow_1).before args s = true from hpre))
  obtain ⟨h1, h2⟩ := and_e hg
  have ha0 := h2
  obtain ⟨w0, rfl⟩ : ∃ w0 : Value, args = #[w0] := by
    have hs : args.size = 1 := by simpa [Cond.value, given_1] using h1
    obtain ⟨L⟩ := args
    match L, hs with
    | [w0], _ => exact ⟨w0, rfl⟩
  have hw := fun d (hd : d ∈ tables_1) => atoms_spec (ws := Jvm.Cond.code x code maxLocals ret :: tables_1) hat d (List.mem_cons_of_mem _ hd)
  obtain ⟨i0, ei0⟩ := is_v ha0
  obtain rfl : w0 = (.int i0) := Option.some.inj ei0
  obtain ⟨n, o, h1, h2, h3, _, L, rfl, ⟨rfl, N⟩, hq⟩ := rm0 l s _ hw tables_1 i0 s.heap s.heap.size (Nat.le_refl _)  p e ha hc hk s m _ below hf ((Spec.applies_iff_loose hf).mp happ).1 ⟨rfl, State.Warmed39.refl s, rfl⟩ trivial
  refine ⟨n, _, h1, h2, h3, hpost _ _ _ _ _ _ ⟨Cond.after_iff.mpr rfl, Cond.after_iff.mpr (eq_i res_at (Term.int_eval (1)) rfl), trivial⟩ ⟨hq.1, hq.2.1, (hq.2.2.sift fun y hy => Or.inr (N y hy)).mono (by decide) (by decide)⟩⟩
theorem main_1_1 : Claimed_1_1 := comes_1 fun _ _ _ _ _ _ h hF => ⟨h.1, hF⟩
theorem main_1_2 : Claimed_1_2 := comes_1 fun _ _ _ _ _ _ h hF => ⟨h.2.1, hF⟩
end Jvm.Pilot.@@N@@
namespace Jvm.Pilot.@@N@@
open Jvm Jvm.ClassFile Sem Op Lib Jvm.Free Jvm.Stand Jvm.Pilot.@@N@@.Jvm.D
/-! MADE BY PROGRAM (witnessworld.py) out of the Statement's table words and the real class files: 9 classes; the members and pool entries that the words name. The judged class is class 1, her method 1. -/
namespace start1
open Jvm.ClassFile
def u (s : String) : CpInfo := .utf8 (stringToUtf16 s)
/-- a pool by its gaps: so many unusable entries, then the entry; so many at the end -/
def gap : Nat → List CpInfo → List CpInfo
  | 0, r => r
  | n + 1, r => .unusable :: gap n r
def poolList (es : List (Nat × CpInfo)) (last : Nat) : List CpInfo := es.foldr (fun e r => gap e.1 (e.2 :: r)) (gap last [])
def pool (es : List (Nat × CpInfo)) (last : Nat) : Array CpInfo := ⟨poolList es last⟩
def fileOf (pool : Array CpInfo) (this : Nat) (attrs : Array Attribute := #[]) (ms : Array MethodInfo := #[]) (fl : Nat := 33) (sup : Nat := 0) (ifs : Array Nat := #[]) (fds : Array FieldInfo := #[]) : ClassFile where
  minorVersion := 0
  majorVersion := 65
  constantPool := pool
  accessFlags := fl
  thisClass := this
  superClass := sup
  interfaces := ifs
  fields := fds
  methods := ms
  attributes := attrs
def plain (name : String) (sup : Option ClassId) : Class where
  name := name
  kind := .ordinary
  loader := none
  accessFlags := 33
  super := sup
  interfaces := #[]
  cf := none
  fields := #[]
  methods := #[]
  instanceTypes := #[]
  staticTypes := #[]
  resolved := #[]
  callSites := []
  init := .initialized
  statics := none
  mirror := none

def pool0 : Array CpInfo := pool [(5, u "<init>"), (0, u "()V"), (1, .class_ 10), (1, u "java/lang/Object")] 113

def k0m0 : Method := { name := "<init>", desc := "()V", sig := { parameters := [], returnType := none }, accessFlags := 1, code := none }
/-- java/lang/Object -/
def k0 : Class := { plain "java/lang/Object" none with
  accessFlags := 33
  interfaces := #[]
  cf := some (fileOf pool0 8 #[] #[{ accessFlags := 1, nameIndex := 5, descriptorIndex := 6, attributes := #[] }] 33 0 #[] #[])
  fields := #[]
  methods := #[k0m0]
  instanceTypes := #[]
  staticTypes := #[]
  resolved := Array.replicate 124 none
  statics := none }

def pool1 : Array CpInfo := pool [(2, .class_ 4), (1, u "java/lang/Object"), (0, u "<init>"), (0, u "()V"), (0, .methodref 8 9), (0, .class_ 10), (0, .nameAndType 11 12), (0, u "com/example/barred_owl/barredowl/EdgeRoute"), (0, u "isPointCount"), (0, u "(I)Z"), (0, .class_ 14), (0, u "com/example/barred_owl/barredowl/EdgeRouteIsPointCountPinLaw"), (2, u "law")] 3

def k1m0 : Method := { name := "<init>", desc := "()V", sig := { parameters := [], returnType := none }, accessFlags := 1, code := none }
def k1c1 : Code := { maxStack := 3, maxLocals := 3, code := code, exceptionTable := #[], attributes := #[] }
def k1m1 : Method := { name := "law", desc := "(I)Z", sig := { parameters := [.int], returnType := some .boolean }, accessFlags := 9, code := some k1c1 }
/-- com/example/barred_owl/barredowl/EdgeRouteIsPointCountPinLaw -/
def k1 : Class := { plain "com/example/barred_owl/barredowl/EdgeRouteIsPointCountPinLaw" (some 0) with
  accessFlags := 49
  interfaces := #[]
  cf := some (fileOf pool1 13 #[] #[{ accessFlags := 1, nameIndex := 5, descriptorIndex := 6, attributes := #[] }, { accessFlags := 9, nameIndex := 17, descriptorIndex := 12, attributes := #[] }] 49 2 #[] #[])
  fields := #[]
  methods := #[k1m0, k1m1]
  instanceTypes := #[]
  staticTypes := #[]
  resolved := Array.replicate 21 none
  statics := none }

def pool2 : Array CpInfo := pool [(2, .class_ 4), (1, u "java/lang/Object"), (3, .class_ 10), (1, u "com/example/barred_owl/barredowl/EdgeRoute"), (0, u "isPointCount"), (0, u "(I)Z"), (12, u "[Ljava/math/BigDecimal;"), (4, u "xs"), (2, u "ys"), (23, u "PIECE_POINTS"), (0, u "I")] 32

def k2c0 : Code := { maxStack := 2, maxLocals := 1, code := prog_20_method_2_code, exceptionTable := #[], attributes := #[] }
def k2m0 : Method := { name := "isPointCount", desc := "(I)Z", sig := { parameters := [.int], returnType := some .boolean }, accessFlags := 8, code := some k2c0 }
/-- com/example/barred_owl/barredowl/EdgeRoute -/
def k2 : Class := { plain "com/example/barred_owl/barredowl/EdgeRoute" (some 0) with
  accessFlags := 48
  interfaces := #[]
  cf := some (fileOf pool2 8 #[] #[{ accessFlags := 8, nameIndex := 11, descriptorIndex := 12, attributes := #[] }] 48 2 #[] #[{ accessFlags := 26, nameIndex := 57, descriptorIndex := 58, attributes := #[] }, { accessFlags := 18, nameIndex := 30, descriptorIndex := 25, attributes := #[] }, { accessFlags := 18, nameIndex := 33, descriptorIndex := 25, attributes := #[] }])
  fields := #[{ name := "PIECE_POINTS", type := .int, accessFlags := 26, slot := 0, constantValue := 0 }, { name := "xs", type := (.array (.object "java/math/BigDecimal")), accessFlags := 18, slot := 0, constantValue := 0 }, { name := "ys", type := (.array (.object "java/math/BigDecimal")), accessFlags := 18, slot := 1, constantValue := 0 }]
  methods := #[k2m0]
  instanceTypes := #[(.array (.object "java/math/BigDecimal")), (.array (.object "java/math/BigDecimal"))]
  staticTypes := #[.int]
  resolved := Array.replicate 91 none
  statics := none }

def pool3 : Array CpInfo := pool [(1, u "java/lang/Cloneable"), (0, .class_ 1), (0, u "java/lang/Object"), (0, .class_ 3)] 3

/-- java/lang/Cloneable -/
def k3 : Class := { plain "java/lang/Cloneable" (some 0) with
  accessFlags := 1537
  interfaces := #[]
  cf := some (fileOf pool3 2 #[] #[] 1537 4 #[] #[])
  fields := #[]
  methods := #[]
  instanceTypes := #[]
  staticTypes := #[]
  resolved := Array.replicate 8 none
  statics := none }

def pool4 : Array CpInfo := pool [(1, u "java/io/Serializable"), (0, .class_ 1), (0, u "java/lang/Object"), (0, .class_ 3)] 3

/-- java/io/Serializable -/
def k4 : Class := { plain "java/io/Serializable" (some 0) with
  accessFlags := 1537
  interfaces := #[]
  cf := some (fileOf pool4 2 #[] #[] 1537 4 #[] #[])
  fields := #[]
  methods := #[]
  instanceTypes := #[]
  staticTypes := #[]
  resolved := Array.replicate 8 none
  statics := none }

/-- the primitive byte -/
def k5 : Class := { plain "byte" none with kind := .primitive 'B', accessFlags := 0x411 }
/-- [B -/
def k6 : Class := { plain "[B" (some 0) with kind := .array 5 .byte, interfaces := #[3, 4], accessFlags := 1041 }

/-- the primitive int -/
def k7 : Class := { plain "int" none with kind := .primitive 'I', accessFlags := 0x411 }
/-- [I -/
def k8 : Class := { plain "[I" (some 0) with kind := .array 7 .int, interfaces := #[3, 4], accessFlags := 1041 }

def heap : Heap := #[]
def classes : Array Class := #[k0, k1, k2, k3, k4, k5, k6, k7, k8]
def interned : List (Array UInt16 × Addr) := []
def slotsUsed : Nat := 0
def theMethod : MethodId := ⟨1, 1⟩
def args0 : Array Value := #[.int 5]
def aboutOver (below : List Frame) : State where
  vm := { classes := classes, interned := interned.toArray }
  heap := heap
  slotsUsed := slotsUsed
  threads := #[{ frames := .invoking theMethod args0 :: below }]
def below0 : List Frame := [.native { method := ⟨0, 0⟩, args := #[] }]
def about1 : State := aboutOver below0
def p0 : Program := .bare "" "" ""
def e0 : Env := launch0.env 0 0 0
theorem w_frames : about1.frames = Frame.invoking theMethod args0 :: below0 := rfl
set_option maxRecDepth 65536 in
theorem w_args : argsFit about1.vm theMethod args0 = true := by decide +kernel
set_option maxRecDepth 65536 in
theorem w_heap : heapFits about1 = true := by decide +kernel
set_option maxRecDepth 65536 in
theorem w_runnable : about1.curStatus? = some .runnable := by decide +kernel
set_option maxRecDepth 65536 in
theorem w_alone : about1.alone = true := by decide +kernel
set_option maxRecDepth 65536 in
theorem w_named : about1.methodNamed? x = some theMethod := by decide +kernel
set_option maxRecDepth 65536 in
theorem w_hears : about1.hears theMethod below0 = true := by decide +kernel
set_option maxRecDepth 65536 in
theorem w_ripe : about1.ripe theMethod args0 below0 = true := by decide +kernel
theorem w_running : about1.status = .running := rfl
set_option maxRecDepth 65536 in
theorem w_room : about1.hasRoom e0.platform room_1 = true :=
  launch0.hasRoom_least _ room_1 (by decide +kernel) (by decide +kernel) (by decide +kernel) (by decide +kernel) (by decide +kernel) (by decide +kernel)
theorem allAtoms_all (ts : List Jvm.Cond) (a : Array Jvm.Value) (st : Jvm.State) : (allAtoms ts).before a st = ts.all (fun c => c.before a st) := by
  induction ts with
  | nil => rfl
  | cons c t ih =>
    show (Jvm.Cond.and c (allAtoms t)).before a st = _
    rw [Jvm.Cond.before_and, ih, List.all_cons]
def words1 : List Jvm.Cond := Jvm.Cond.code x code maxLocals ret :: tables_1
/-- a 'code' word, met by the world's own term for the bytes: nothing is compared byte by byte -/
theorem code_word {y : MethodName} {bytes : ByteArray} {mx : Nat} {rt : Option FieldType} {a : Array Value} {s : State} {m : MethodId} {meth : Method} {c : Code} (h1 : s.methodNamed? y = some m) (h2 : s.vm.method? m = some meth) (h3 : meth.code = some c) (h4 : c.code = bytes)
    (h5 : (c.maxLocals == mx && c.exceptionTable.isEmpty && decide (c.maxStack ≤ mostOperands) && decide (meth.sig.returnType = rt) && !meth.locks && decide (parseMethodDescriptor y.desc = some meth.sig)) = true) : (Jvm.Cond.code y bytes mx rt).before a s = true := by
  simp only [Bool.and_eq_true, beq_iff_eq, Bool.not_eq_true', decide_eq_true_eq] at h5
  obtain ⟨⟨⟨⟨⟨g1, g2⟩, g3⟩, g4⟩, g5⟩, g6⟩ := h5
  simp [Cond.before, Cond.holds, Cond.value, h1, h2, h3, h4, g1, g2, g3, g4, g5, g6]
def isCode : Jvm.Cond → Bool
  | .code _ _ _ _ => true
  | _ => false
theorem all_split {L : List Jvm.Cond} {P : Jvm.Cond → Bool} (h1 : L.all (fun c => isCode c || P c) = true) (h2 : ∀ c ∈ L.filter isCode, P c = true) : L.all P = true := by
  refine List.all_eq_true.mpr fun c hc => ?_
  have h := List.all_eq_true.mp h1 c hc
  rcases Bool.eq_false_or_eq_true (isCode c) with hi | hi
  · exact h2 c (List.mem_filter.mpr ⟨hc, hi⟩)
  · simpa [hi] using h
set_option maxRecDepth 65536 in
theorem w_c0 : (Jvm.Cond.code x code maxLocals ret).before args0 about1 = true := code_word (m := ⟨1, 1⟩) (meth := k1m1) (c := k1c1) (by decide +kernel) rfl rfl rfl (by decide +kernel)
set_option maxRecDepth 65536 in
theorem w_c1 : (Jvm.Cond.code ({ cls := "com/example/barred_owl/barredowl/EdgeRoute", name := "isPointCount", desc := "(I)Z" } : Jvm.MethodName) prog_20_method_2_code (1 : Nat) (Option.some Jvm.ClassFile.FieldType.boolean)).before args0 about1 = true := code_word (m := ⟨2, 0⟩) (meth := k2m0) (c := k2c0) (by decide +kernel) rfl rfl rfl (by decide +kernel)
def codes1 : List Jvm.Cond := [Jvm.Cond.code x code maxLocals ret, Jvm.Cond.code ({ cls := "com/example/barred_owl/barredowl/EdgeRoute", name := "isPointCount", desc := "(I)Z" } : Jvm.MethodName) prog_20_method_2_code (1 : Nat) (Option.some Jvm.ClassFile.FieldType.boolean)]
set_option maxRecDepth 65536 in
theorem codes_eq : words1.filter isCode = codes1 := rfl
theorem w_codes : ∀ c ∈ words1.filter isCode, c.before args0 about1 = true := by
  rw [codes_eq]
  intro c hc
  simp only [codes1, List.mem_cons, List.not_mem_nil, or_false] at hc
  rcases hc with rfl | rfl
  · exact w_c0
  · exact w_c1
set_option maxRecDepth 65536 in
theorem w_t1 : words1.all (fun c => isCode c || c.before args0 about1) = true := by decide +kernel
theorem w_tables : (allAtoms (Jvm.Cond.code x code maxLocals ret :: tables_1)).before args0 about1 = true := by
  rw [allAtoms_all]
  show words1.all (fun c => c.before args0 about1) = true
  refine all_split ?_ w_codes
  rw [w_t1]
set_option maxRecDepth 65536 in
theorem w_case : (Jvm.Cond.and given_1 narrow_1).before args0 about1 = true := by decide +kernel
theorem w_applies : (headSpec (Jvm.Cond.code x code maxLocals ret :: tables_1) room_1).applies x e0.platform about1 = true :=
  (Spec.applies_iff w_frames).mpr ⟨w_running, w_runnable, w_alone, w_named, w_hears, w_ripe, w_room, w_tables⟩
theorem atStart : AtStart classFile x code maxLocals ret World_1 tables_1 room_1 Calls_1 rest_1 Pre_1 launch0 p0 e0 about1 theMethod args0 below0 :=
  ⟨lists_1, trivial, launch0.admits_env _ _ _, launch0.least_env, fairChoices_fair.cas, fairChoices_fair.clock, w_frames, w_args, w_heap, w_applies, trivial, trivial, w_case⟩
end start1
theorem witness_1 : WitnessClaimed_1 := ⟨start1.p0, start1.e0, start1.about1, start1.theMethod, start1.args0, start1.below0, start1.atStart⟩
end Jvm.Pilot.@@N@@
