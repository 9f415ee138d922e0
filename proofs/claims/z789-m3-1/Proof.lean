import JvmDerived
import JvmDerived.Pilot.@@N@@Statement
import JvmDerived.Pilot.@@N@@Code
set_option linter.unusedVariables false
set_option linter.unusedSimpArgs false
namespace Jvm.Pilot.@@N@@
open Jvm Jvm.ClassFile Sem Op Lib Jvm.Free Jvm.Stand Jvm.LawKit Jvm.RoadKit Bundle Jvm.Pilot.@@N@@.Jvm.D
def own_Go (tb : Tables) (e : Env) (below : List Frame) (P : State → Outcome → Prop) (A : State) : Prop := ∃ s₂ o, Steps tb e below A s₂ ∧ P s₂ o
theorem own_in {tb : Tables} {e : Env} {below : List Frame} {P : State → Outcome → Prop} {A : State} (h : own_Go tb e below P A) : ∃ s₂ o, Steps tb e below A s₂ ∧ P s₂ o := h
theorem own_st {tb : Tables} {e : Env} {below : List Frame} {P : State → Outcome → Prop} {A B : State} (h : ∀ t, Steps tb e below B t → Steps tb e below A t) (k : own_Go tb e below P B) : own_Go tb e below P A := by
  obtain ⟨s₂, o, h1, h2⟩ := k
  exact ⟨s₂, o, h _ h1, h2⟩
theorem own_tr {tb : Tables} {e : Env} {below : List Frame} {P : State → Outcome → Prop} {A B : State} (h : Steps tb e below A B) (k : own_Go tb e below P B) : own_Go tb e below P A := by
  obtain ⟨s₂, o, h1, h2⟩ := k
  exact ⟨s₂, o, h.trans h1, h2⟩
theorem own_out {tb : Tables} {e : Env} {below : List Frame} {P : State → Outcome → Prop} {A B : State} {o : Outcome} (h : Steps tb e below A B) (k : P B o) : own_Go tb e below P A := ⟨B, o, h, k⟩
theorem own_join {ι : Type} {tb : Tables} {e : Env} {below : List Frame} {P : State → Outcome → Prop} {A : State} (B : ι → State) (K : ι → Prop) (hJ : ∀ b, K b → own_Go tb e below P (B b)) (h : (∀ b, K b → own_Go tb e below P (B b)) → own_Go tb e below P A) : own_Go tb e below P A := h hJ
section Own
variable {p : Program} {l : Launch} {e : Env} {R : Room} {s : State} {m : MethodId} {args : Array Value} {below : List Frame} {meth : Method} {c : Code} {T : State} {locs : List Loc} {cells slots : Nat}
theorem own_retI (X : Stand p l e R s m args below meth c T locs cells slots) (hx : p.tables.exec = Jvm.exec) {pc : Nat} {Ls : Array Slot} {z : Int32} {rest : List Value} (hret : meth.sig.returnType = some .int) (hd : decode c.code pc = .ok (.ireturn, 1)) {fs : List Frame}
    (hl : ∀ (f : JFrame) (acts : List Action), f.method = m → f.locked = none → f.entered = [] → (doReturn e (T.setTop f) acts (some (.int z))).1 = T.setFrames fs) : Steps p.tables e below (T.setTop (mkF m pc Ls (.int z :: rest))) (T.setFrames fs) := by
  have hm' : T.vm.method? m = some meth := X.method'
  have hn : narrow .int (.int z) = .int z := rfl
  show Steps p.tables e below (T.setTop { method := m, pc := pc, locals := Ls, stack := _ :: rest, locked := none }) _
  jvm_step X.here [X.here.top, hx, hd, hm', hret, hn]
  first | (intro acts; rw [hl _ acts rfl rfl rfl]) | rw [hl _ _ rfl rfl rfl]
  exact Steps.refl _
end Own
theorem own_narB (x : Int32) : x.toInt8.toInt32.toInt8.toInt32 = x.toInt8.toInt32 := by simp
theorem own_m4 (u : Int32) : (u &&& (3 : Int32)) = (0 : Int32) ∨ (u &&& (3 : Int32)) = (1 : Int32) ∨ (u &&& (3 : Int32)) = (2 : Int32) ∨ (u &&& (3 : Int32)) = (3 : Int32) := by
  have m := c_mask u 3 2 (by decide) (by decide)
  simp only [← Int32.toInt_inj, Int32.reduceToInt]
  omega
def own_mx (u0 : Int32) (u1 : Int32) : Int32 := (if u0 < u1 then u1 else u0)
theorem d2_0 : decode jdk_29_method_65_code 0 = .ok (.iload_n 0, 1) := by decide +kernel
theorem d2_1 : decode jdk_29_method_65_code 1 = .ok (.iload_n 1, 1) := by decide +kernel
theorem d2_2 : decode jdk_29_method_65_code 2 = .ok (.if_icmp .lt 7, 3) := by decide +kernel
theorem d2_5 : decode jdk_29_method_65_code 5 = .ok (.iload_n 0, 1) := by decide +kernel
theorem d2_6 : decode jdk_29_method_65_code 6 = .ok (.goto 4, 3) := by decide +kernel
theorem d2_9 : decode jdk_29_method_65_code 9 = .ok (.iload_n 1, 1) := by decide +kernel
theorem d2_10 : decode jdk_29_method_65_code 10 = .ok (.ireturn, 1) := by decide +kernel
theorem own_pd0 : parseMethodDescriptor "(II)I" = some ⟨[.int, .int], some .int⟩ := by decide +kernel
def Q2 (Z : State) (u0 : Int32) (u1 : Int32) (h0 : Heap) (n0 : Nat) (v : Option Value) (h : Heap) (L : List Loc) : Prop := v = some (.int (own_mx u0 u1)) ∧ Fr n0 L ∧ h = h0
theorem ef_2 (m : MethodId) (x0 : Int32) (x1 : Int32) : entryFrame m #[(.int x0), (.int x1)] 2 = mkF m 0 #[.val (.int x0), .val (.int x1)] [] := by first | (simp [entryFrame, mkF, argsToLocals, Value.category]; done) | rfl
set_option maxRecDepth 65536 in
set_option maxHeartbeats 40000000 in
theorem rm2 (l : Launch) (Z : State) (a0 : Array Value) (hw : ∀ d ∈ tables_1, d.before a0 Z = true) (ws : List Jvm.Cond) (u0 : Int32) (u1 : Int32) (h0 : Heap) (n0 : Nat) (Z0 : n0 ≤ h0.size)  :
    MetFree l (⟨"java/lang/Math", "max", "(II)I"⟩ : MethodName) (head1 (Jvm.Cond.code (⟨"java/lang/Math", "max", "(II)I"⟩ : MethodName) jdk_29_method_65_code 2 (some .int) :: ws) ({ frames := 0, cells := 0, slots := 0, locals := 0 } : Room)) (fun a U => a = #[(.int u0), (.int u1)] ∧ Z.Warmed39 U.vm ∧ U.heap = h0) (fun _ _ _ _ _ => True) (fun _ U o U' => ∃ v L, o = .returned v ∧ Q2 Z u0 u1 h0 n0 v U'.heap L ∧ FrameEnd U o U' L ({ frames := 0, cells := 0, slots := 0, locals := 0 } : Room).cells ({ frames := 0, cells := 0, slots := 0, locals := 0 } : Room).slots) := by
  refine MetFree.of_bodySF (Jvm.Free.JP.mathPlain rfl (by decide)) hisR ?_
  intro p e s m args below meth c s₁ Bd hml0 hP hK
  obtain ⟨rfl, hZ, hh⟩ := hP
  have hx := Bd.exec
  have hby := Bd.bytes
  have hml : c.maxLocals = 2 := hml0
  have hown : s.vm.findClass "java/lang/Math" = some m.cls := findClass_of_methodNamed Bd.named
  have hnm := (name_of_methodNamed Bd.named Bd.method).1
  have X0 : Stand p l e ({ frames := 0, cells := 0, slots := 0, locals := 0 } : Room) s m #[(.int u0), (.int u1)] below meth c s₁ [] 0 0 := Stand.of_body Bd
  have e0 : s₁.heap = h0 := by rw [← hh, Bd.state]; rfl
  have N0 := Fr.nil n0
  refine own_in ?_
  refine own_st (fun _ k => castTop (ef_2 m u0 u1) k) ?_
  have K0 : Keep h0 h0 [] := Keep.refl h0 []
  show own_Go _ _ _ _ (s₁.setTop (mkF m 0 #[.val (.int u0), .val (.int u1)] []))
  refine own_st (fun _ k => XS.iloadN X0.here hx rfl (hb hby d2_0) rfl k) ?_
  show own_Go _ _ _ _ (s₁.setTop (mkF m 1 #[.val (.int u0), .val (.int u1)] [(.int u0)]))
  refine own_st (fun _ k => XS.iloadN X0.here hx rfl (hb hby d2_1) rfl k) ?_
  show own_Go _ _ _ _ (s₁.setTop (mkF m 2 #[.val (.int u0), .val (.int u1)] [(.int u1), (.int u0)]))
  by_cases hc1 : u0 < u1
  · skip
    refine own_st (fun _ k => XS.icmpYes X0.here hx rfl (pc0 := 2) (pc' := 9) rfl (hb hby d2_2) rfl (tlt hc1).1 (by decide) (by decide) k) ?_
    show own_Go _ _ _ _ (s₁.setTop (mkF m 9 #[.val (.int u0), .val (.int u1)] []))
    refine own_st (fun _ k => XS.iloadN X0.here hx rfl (hb hby d2_9) rfl k) ?_
    show own_Go _ _ _ _ (s₁.setTop (mkF m 10 #[.val (.int u0), .val (.int u1)] [(.int u1)]))
    obtain ⟨fs, hr, hrun, hended, hW, hsame⟩ := X0.leave (v := some (.int u1)) (fun h => by rw [Bd.returns] at h; cases h)
    refine own_out (own_retI X0 hx Bd.returns (hb hby d2_10) hr) ⟨hrun, hended, _, _, rfl, ?_, ⟨_, rfl⟩, hW, hsame.mono (by decide) (by decide)⟩
    show Q2 Z u0 u1 h0 n0 _ s₁.heap _
    have hv : own_mx u0 u1 = u1 := by
      unfold own_mx
      rw [if_pos hc1]
    exact ⟨by rw [hv], N0, e0⟩
  · skip
    refine own_st (fun _ k => XS.icmpNo X0.here hx rfl (hb hby d2_2) rfl (flt hc1).1 k) ?_
    show own_Go _ _ _ _ (s₁.setTop (mkF m 5 #[.val (.int u0), .val (.int u1)] []))
    refine own_st (fun _ k => XS.iloadN X0.here hx rfl (hb hby d2_5) rfl k) ?_
    show own_Go _ _ _ _ (s₁.setTop (mkF m 6 #[.val (.int u0), .val (.int u1)] [(.int u0)]))
    refine own_st (fun _ k => XS.goto X0.here hx rfl (pc0 := 6) (pc' := 10) rfl (hb hby d2_6) (by decide) (by decide) k) ?_
    show own_Go _ _ _ _ (s₁.setTop (mkF m 10 #[.val (.int u0), .val (.int u1)] [(.int u0)]))
    obtain ⟨fs, hr, hrun, hended, hW, hsame⟩ := X0.leave (v := some (.int u0)) (fun h => by rw [Bd.returns] at h; cases h)
    refine own_out (own_retI X0 hx Bd.returns (hb hby d2_10) hr) ⟨hrun, hended, _, _, rfl, ?_, ⟨_, rfl⟩, hW, hsame.mono (by decide) (by decide)⟩
    show Q2 Z u0 u1 h0 n0 _ s₁.heap _
    have hv : own_mx u0 u1 = u0 := by
      unfold own_mx
      rw [if_neg hc1]
    exact ⟨by rw [hv], N0, e0⟩
def own_la0  : Int32 := (-2147483648 : Int32)
theorem d1_0 : decode prog_55_method_21_code 0 = .ok (.ldc 133, 2) := by decide +kernel
theorem d1_2 : decode prog_55_method_21_code 2 = .ok (.istore_n 1, 1) := by decide +kernel
theorem d1_3 : decode prog_55_method_21_code 3 = .ok (.aload_n 0, 1) := by decide +kernel
theorem d1_4 : decode prog_55_method_21_code 4 = .ok (.astore_n 2, 1) := by decide +kernel
theorem d1_5 : decode prog_55_method_21_code 5 = .ok (.aload_n 2, 1) := by decide +kernel
theorem d1_6 : decode prog_55_method_21_code 6 = .ok (.arraylength, 1) := by decide +kernel
theorem d1_7 : decode prog_55_method_21_code 7 = .ok (.istore_n 3, 1) := by decide +kernel
theorem d1_8 : decode prog_55_method_21_code 8 = .ok (.iconst 0, 1) := by decide +kernel
theorem d1_9 : decode prog_55_method_21_code 9 = .ok (.istore 4, 2) := by decide +kernel
theorem d1_11 : decode prog_55_method_21_code 11 = .ok (.iload 4, 2) := by decide +kernel
theorem d1_13 : decode prog_55_method_21_code 13 = .ok (.iload_n 3, 1) := by decide +kernel
theorem d1_14 : decode prog_55_method_21_code 14 = .ok (.if_icmp .ge 22, 3) := by decide +kernel
theorem d1_17 : decode prog_55_method_21_code 17 = .ok (.aload_n 2, 1) := by decide +kernel
theorem d1_18 : decode prog_55_method_21_code 18 = .ok (.iload 4, 2) := by decide +kernel
theorem d1_20 : decode prog_55_method_21_code 20 = .ok (.iaload, 1) := by decide +kernel
theorem d1_21 : decode prog_55_method_21_code 21 = .ok (.istore 5, 2) := by decide +kernel
theorem d1_23 : decode prog_55_method_21_code 23 = .ok (.iload_n 1, 1) := by decide +kernel
theorem d1_24 : decode prog_55_method_21_code 24 = .ok (.iload 5, 2) := by decide +kernel
theorem d1_26 : decode prog_55_method_21_code 26 = .ok (.invokestatic 127, 3) := by decide +kernel
theorem d1_29 : decode prog_55_method_21_code 29 = .ok (.istore_n 1, 1) := by decide +kernel
theorem d1_30 : decode prog_55_method_21_code 30 = .ok (.iinc 4 1, 3) := by decide +kernel
theorem d1_33 : decode prog_55_method_21_code 33 = .ok (.goto (-22), 3) := by decide +kernel
theorem d1_36 : decode prog_55_method_21_code 36 = .ok (.iload_n 1, 1) := by decide +kernel
theorem d1_37 : decode prog_55_method_21_code 37 = .ok (.ireturn, 1) := by decide +kernel
theorem own_pd1 : parseMethodDescriptor "([I)I" = some ⟨[(.array .int)], some .int⟩ := by decide +kernel
theorem own_pn0 : plainName "com/example/barred_owl/barredowl/Representation" = true := by first | (simp [plainName, overriddenIn]; done) | decide +kernel
def Q1_0 (Z : State) (ar : Addr) (kk : ClassId)  (h0 : Heap) (n0 : Nat) (v : Option Value) (h : Heap) (L : List Loc) : Prop := v = some (.int (own_la0)) ∧ Fr n0 L ∧ h = h0
theorem ef_1_0 (m : MethodId) (x0 : Addr) : entryFrame m #[(.ref x0)] 6 = mkF m 0 #[.val (.ref x0), .unset, .unset, .unset, .unset, .unset] [] := by first | (simp [entryFrame, mkF, argsToLocals, Value.category]; done) | rfl
set_option maxRecDepth 65536 in
set_option maxHeartbeats 40000000 in
theorem rm1_0 (l : Launch) (Z : State) (a0 : Array Value) (hw : ∀ d ∈ tables_1, d.before a0 Z = true) (ws : List Jvm.Cond) (ar : Addr) (kk : ClassId)  (h0 : Heap) (n0 : Nat) (Z0 : n0 ≤ h0.size) (V_ar : Arv Z h0 ar kk .int (0 : Int32) [] (.int (0 : Int32))) :
    MetFree l (⟨"com/example/barred_owl/barredowl/Representation", "largest", "([I)I"⟩ : MethodName) (head1 (Jvm.Cond.code (⟨"com/example/barred_owl/barredowl/Representation", "largest", "([I)I"⟩ : MethodName) prog_55_method_21_code 6 (some .int) :: ws) ({ frames := 1, cells := 0, slots := 0, locals := 20 } : Room)) (fun a U => a = #[(.ref ar)] ∧ Z.Warmed39 U.vm ∧ U.heap = h0) (fun _ _ _ _ _ => True) (fun _ U o U' => ∃ v L, o = .returned v ∧ Q1_0 Z ar kk h0 n0 v U'.heap L ∧ FrameEnd U o U' L ({ frames := 1, cells := 0, slots := 0, locals := 20 } : Room).cells ({ frames := 1, cells := 0, slots := 0, locals := 20 } : Room).slots) := by
  refine MetFree.of_bodySF (plainFor_of_name own_pn0) hisR ?_
  intro p e s m args below meth c s₁ Bd hml0 hP hK
  obtain ⟨rfl, hZ, hh⟩ := hP
  have hx := Bd.exec
  have hby := Bd.bytes
  have hml : c.maxLocals = 6 := hml0
  have hown : s.vm.findClass "com/example/barred_owl/barredowl/Representation" = some m.cls := findClass_of_methodNamed Bd.named
  have hnm := (name_of_methodNamed Bd.named Bd.method).1
  have X0 : Stand p l e ({ frames := 1, cells := 0, slots := 0, locals := 20 } : Room) s m #[(.ref ar)] below meth c s₁ [] 0 0 := Stand.of_body Bd
  have e0 : s₁.heap = h0 := by rw [← hh, Bd.state]; rfl
  have N0 := Fr.nil n0
  refine own_in ?_
  refine own_st (fun _ k => castTop (ef_1_0 m ar) k) ?_
  have K0 : Keep h0 h0 [] := Keep.refl h0 []
  show own_Go _ _ _ _ (s₁.setTop (mkF m 0 #[.val (.ref ar), .unset, .unset, .unset, .unset, .unset] []))
  refine own_st (fun _ k => X0.ldcInt hx hown (mvT hZ (hw _ (List.mem_of_getElem? (i := 6) rfl))) (g := (mkF m 0 #[.val (.ref ar), .unset, .unset, .unset, .unset, .unset] [])) rfl (hb hby d1_0) _ k) ?_
  show own_Go _ _ _ _ (s₁.setTop (mkF m 2 #[.val (.ref ar), .unset, .unset, .unset, .unset, .unset] [(.int (-2147483648 : Int32))]))
  refine own_st (fun _ k => XS.istoreN X0.here hx rfl (hb hby d1_2) rfl (l' := #[.val (.ref ar), .val (.int (-2147483648 : Int32)), .unset, .unset, .unset, .unset]) rfl k) ?_
  show own_Go _ _ _ _ (s₁.setTop (mkF m 3 #[.val (.ref ar), .val (.int (-2147483648 : Int32)), .unset, .unset, .unset, .unset] []))
  refine own_st (fun _ k => XS.aloadN X0.here hx rfl (hb hby d1_3) rfl rfl k) ?_
  show own_Go _ _ _ _ (s₁.setTop (mkF m 4 #[.val (.ref ar), .val (.int (-2147483648 : Int32)), .unset, .unset, .unset, .unset] [(.ref ar)]))
  refine own_st (fun _ k => XS.astoreN X0.here hx rfl (hb hby d1_4) rfl rfl (l' := #[.val (.ref ar), .val (.int (-2147483648 : Int32)), .val (.ref ar), .unset, .unset, .unset]) rfl k) ?_
  show own_Go _ _ _ _ (s₁.setTop (mkF m 5 #[.val (.ref ar), .val (.int (-2147483648 : Int32)), .val (.ref ar), .unset, .unset, .unset] []))
  refine own_st (fun _ k => XS.aloadN X0.here hx rfl (hb hby d1_5) rfl rfl k) ?_
  show own_Go _ _ _ _ (s₁.setTop (mkF m 6 #[.val (.ref ar), .val (.int (-2147483648 : Int32)), .val (.ref ar), .unset, .unset, .unset] [(.ref ar)]))
  obtain ⟨cl2, Ar2, -, Sz2, Nn2, -, -⟩ := id V_ar
  refine own_st (X0.arraylength hx (by rw [e0]; exact Ar2.1) (State.isArrayOf_alike hZ.alike Ar2.2.1) (g := (mkF m 6 #[.val (.ref ar), .val (.int (-2147483648 : Int32)), .val (.ref ar), .unset, .unset, .unset] [(.ref ar)])) rfl rfl (hb hby d1_6)) ?_
  rw [len_of Sz2 Nn2]
  show own_Go _ _ _ _ (s₁.setTop (mkF m 7 #[.val (.ref ar), .val (.int (-2147483648 : Int32)), .val (.ref ar), .unset, .unset, .unset] [(.int (0 : Int32))]))
  refine own_st (fun _ k => XS.istoreN X0.here hx rfl (hb hby d1_7) rfl (l' := #[.val (.ref ar), .val (.int (-2147483648 : Int32)), .val (.ref ar), .val (.int (0 : Int32)), .unset, .unset]) rfl k) ?_
  show own_Go _ _ _ _ (s₁.setTop (mkF m 8 #[.val (.ref ar), .val (.int (-2147483648 : Int32)), .val (.ref ar), .val (.int (0 : Int32)), .unset, .unset] []))
  refine own_st (fun _ k => XS.iconst X0.here hx rfl (hb hby d1_8) k) ?_
  show own_Go _ _ _ _ (s₁.setTop (mkF m 9 #[.val (.ref ar), .val (.int (-2147483648 : Int32)), .val (.ref ar), .val (.int (0 : Int32)), .unset, .unset] [(.int (0 : Int32))]))
  refine own_st (fun _ k => XS.istore X0.here hx rfl (hb hby d1_9) rfl (l' := #[.val (.ref ar), .val (.int (-2147483648 : Int32)), .val (.ref ar), .val (.int (0 : Int32)), .val (.int (0 : Int32)), .unset]) rfl k) ?_
  show own_Go _ _ _ _ (s₁.setTop (mkF m 11 #[.val (.ref ar), .val (.int (-2147483648 : Int32)), .val (.ref ar), .val (.int (0 : Int32)), .val (.int (0 : Int32)), .unset] []))
  refine own_st (fun _ k => XS.iload X0.here hx rfl (hb hby d1_11) rfl k) ?_
  show own_Go _ _ _ _ (s₁.setTop (mkF m 13 #[.val (.ref ar), .val (.int (-2147483648 : Int32)), .val (.ref ar), .val (.int (0 : Int32)), .val (.int (0 : Int32)), .unset] [(.int (0 : Int32))]))
  refine own_st (fun _ k => XS.iloadN X0.here hx rfl (hb hby d1_13) rfl k) ?_
  show own_Go _ _ _ _ (s₁.setTop (mkF m 14 #[.val (.ref ar), .val (.int (-2147483648 : Int32)), .val (.ref ar), .val (.int (0 : Int32)), .val (.int (0 : Int32)), .unset] [(.int (0 : Int32)), (.int (0 : Int32))]))
  refine own_st (fun _ k => XS.icmpYes X0.here hx rfl (pc0 := 14) (pc' := 36) rfl (hb hby d1_14) rfl (flt (by decide : ¬ ((0 : Int32) < (0 : Int32)))).2.1 (by decide) (by decide) k) ?_
  show own_Go _ _ _ _ (s₁.setTop (mkF m 36 #[.val (.ref ar), .val (.int (-2147483648 : Int32)), .val (.ref ar), .val (.int (0 : Int32)), .val (.int (0 : Int32)), .unset] []))
  refine own_st (fun _ k => XS.iloadN X0.here hx rfl (hb hby d1_36) rfl k) ?_
  show own_Go _ _ _ _ (s₁.setTop (mkF m 37 #[.val (.ref ar), .val (.int (-2147483648 : Int32)), .val (.ref ar), .val (.int (0 : Int32)), .val (.int (0 : Int32)), .unset] [(.int (-2147483648 : Int32))]))
  obtain ⟨fs, hr, hrun, hended, hW, hsame⟩ := X0.leave (v := some (.int (-2147483648 : Int32))) (fun h => by rw [Bd.returns] at h; cases h)
  refine own_out (own_retI X0 hx Bd.returns (hb hby d1_37) hr) ⟨hrun, hended, _, _, rfl, ?_, ⟨_, rfl⟩, hW, hsame.mono (by decide) (by decide)⟩
  show Q1_0 Z ar kk h0 n0 _ s₁.heap _
  have hv : own_la0 = (-2147483648 : Int32) := rfl
  exact ⟨by rw [hv], N0, e0⟩
def own_la1 (v0 : Int32) : Int32 := (own_mx (-2147483648 : Int32) v0)
def Q1_1 (Z : State) (ar : Addr) (kk : ClassId) (v0 : Int32) (h0 : Heap) (n0 : Nat) (v : Option Value) (h : Heap) (L : List Loc) : Prop := v = some (.int (own_la1 v0)) ∧ Fr n0 L ∧ h = h0
theorem ef_1_1 (m : MethodId) (x0 : Addr) : entryFrame m #[(.ref x0)] 6 = mkF m 0 #[.val (.ref x0), .unset, .unset, .unset, .unset, .unset] [] := by first | (simp [entryFrame, mkF, argsToLocals, Value.category]; done) | rfl
set_option maxRecDepth 65536 in
set_option maxHeartbeats 40000000 in
theorem rm1_1 (l : Launch) (Z : State) (a0 : Array Value) (hw : ∀ d ∈ tables_1, d.before a0 Z = true) (ws : List Jvm.Cond) (ar : Addr) (kk : ClassId) (v0 : Int32) (h0 : Heap) (n0 : Nat) (Z0 : n0 ≤ h0.size) (V_ar : Arv Z h0 ar kk .int (1 : Int32) [.int v0] (.int (0 : Int32))) :
    MetFree l (⟨"com/example/barred_owl/barredowl/Representation", "largest", "([I)I"⟩ : MethodName) (head1 (Jvm.Cond.code (⟨"com/example/barred_owl/barredowl/Representation", "largest", "([I)I"⟩ : MethodName) prog_55_method_21_code 6 (some .int) :: ws) ({ frames := 1, cells := 0, slots := 0, locals := 20 } : Room)) (fun a U => a = #[(.ref ar)] ∧ Z.Warmed39 U.vm ∧ U.heap = h0) (fun _ _ _ _ _ => True) (fun _ U o U' => ∃ v L, o = .returned v ∧ Q1_1 Z ar kk v0 h0 n0 v U'.heap L ∧ FrameEnd U o U' L ({ frames := 1, cells := 0, slots := 0, locals := 20 } : Room).cells ({ frames := 1, cells := 0, slots := 0, locals := 20 } : Room).slots) := by
  refine MetFree.of_bodySF (plainFor_of_name own_pn0) hisR ?_
  intro p e s m args below meth c s₁ Bd hml0 hP hK
  obtain ⟨rfl, hZ, hh⟩ := hP
  have hx := Bd.exec
  have hby := Bd.bytes
  have hml : c.maxLocals = 6 := hml0
  have hown : s.vm.findClass "com/example/barred_owl/barredowl/Representation" = some m.cls := findClass_of_methodNamed Bd.named
  have hnm := (name_of_methodNamed Bd.named Bd.method).1
  have X0 : Stand p l e ({ frames := 1, cells := 0, slots := 0, locals := 20 } : Room) s m #[(.ref ar)] below meth c s₁ [] 0 0 := Stand.of_body Bd
  have e0 : s₁.heap = h0 := by rw [← hh, Bd.state]; rfl
  have N0 := Fr.nil n0
  refine own_in ?_
  refine own_st (fun _ k => castTop (ef_1_1 m ar) k) ?_
  have K0 : Keep h0 h0 [] := Keep.refl h0 []
  show own_Go _ _ _ _ (s₁.setTop (mkF m 0 #[.val (.ref ar), .unset, .unset, .unset, .unset, .unset] []))
  refine own_st (fun _ k => X0.ldcInt hx hown (mvT hZ (hw _ (List.mem_of_getElem? (i := 6) rfl))) (g := (mkF m 0 #[.val (.ref ar), .unset, .unset, .unset, .unset, .unset] [])) rfl (hb hby d1_0) _ k) ?_
  show own_Go _ _ _ _ (s₁.setTop (mkF m 2 #[.val (.ref ar), .unset, .unset, .unset, .unset, .unset] [(.int (-2147483648 : Int32))]))
  refine own_st (fun _ k => XS.istoreN X0.here hx rfl (hb hby d1_2) rfl (l' := #[.val (.ref ar), .val (.int (-2147483648 : Int32)), .unset, .unset, .unset, .unset]) rfl k) ?_
  show own_Go _ _ _ _ (s₁.setTop (mkF m 3 #[.val (.ref ar), .val (.int (-2147483648 : Int32)), .unset, .unset, .unset, .unset] []))
  refine own_st (fun _ k => XS.aloadN X0.here hx rfl (hb hby d1_3) rfl rfl k) ?_
  show own_Go _ _ _ _ (s₁.setTop (mkF m 4 #[.val (.ref ar), .val (.int (-2147483648 : Int32)), .unset, .unset, .unset, .unset] [(.ref ar)]))
  refine own_st (fun _ k => XS.astoreN X0.here hx rfl (hb hby d1_4) rfl rfl (l' := #[.val (.ref ar), .val (.int (-2147483648 : Int32)), .val (.ref ar), .unset, .unset, .unset]) rfl k) ?_
  show own_Go _ _ _ _ (s₁.setTop (mkF m 5 #[.val (.ref ar), .val (.int (-2147483648 : Int32)), .val (.ref ar), .unset, .unset, .unset] []))
  refine own_st (fun _ k => XS.aloadN X0.here hx rfl (hb hby d1_5) rfl rfl k) ?_
  show own_Go _ _ _ _ (s₁.setTop (mkF m 6 #[.val (.ref ar), .val (.int (-2147483648 : Int32)), .val (.ref ar), .unset, .unset, .unset] [(.ref ar)]))
  obtain ⟨cl3, Ar3, -, Sz3, Nn3, -, -⟩ := id V_ar
  refine own_st (X0.arraylength hx (by rw [e0]; exact Ar3.1) (State.isArrayOf_alike hZ.alike Ar3.2.1) (g := (mkF m 6 #[.val (.ref ar), .val (.int (-2147483648 : Int32)), .val (.ref ar), .unset, .unset, .unset] [(.ref ar)])) rfl rfl (hb hby d1_6)) ?_
  rw [len_of Sz3 Nn3]
  show own_Go _ _ _ _ (s₁.setTop (mkF m 7 #[.val (.ref ar), .val (.int (-2147483648 : Int32)), .val (.ref ar), .unset, .unset, .unset] [(.int (1 : Int32))]))
  refine own_st (fun _ k => XS.istoreN X0.here hx rfl (hb hby d1_7) rfl (l' := #[.val (.ref ar), .val (.int (-2147483648 : Int32)), .val (.ref ar), .val (.int (1 : Int32)), .unset, .unset]) rfl k) ?_
  show own_Go _ _ _ _ (s₁.setTop (mkF m 8 #[.val (.ref ar), .val (.int (-2147483648 : Int32)), .val (.ref ar), .val (.int (1 : Int32)), .unset, .unset] []))
  refine own_st (fun _ k => XS.iconst X0.here hx rfl (hb hby d1_8) k) ?_
  show own_Go _ _ _ _ (s₁.setTop (mkF m 9 #[.val (.ref ar), .val (.int (-2147483648 : Int32)), .val (.ref ar), .val (.int (1 : Int32)), .unset, .unset] [(.int (0 : Int32))]))
  refine own_st (fun _ k => XS.istore X0.here hx rfl (hb hby d1_9) rfl (l' := #[.val (.ref ar), .val (.int (-2147483648 : Int32)), .val (.ref ar), .val (.int (1 : Int32)), .val (.int (0 : Int32)), .unset]) rfl k) ?_
  show own_Go _ _ _ _ (s₁.setTop (mkF m 11 #[.val (.ref ar), .val (.int (-2147483648 : Int32)), .val (.ref ar), .val (.int (1 : Int32)), .val (.int (0 : Int32)), .unset] []))
  refine own_st (fun _ k => XS.iload X0.here hx rfl (hb hby d1_11) rfl k) ?_
  show own_Go _ _ _ _ (s₁.setTop (mkF m 13 #[.val (.ref ar), .val (.int (-2147483648 : Int32)), .val (.ref ar), .val (.int (1 : Int32)), .val (.int (0 : Int32)), .unset] [(.int (0 : Int32))]))
  refine own_st (fun _ k => XS.iloadN X0.here hx rfl (hb hby d1_13) rfl k) ?_
  show own_Go _ _ _ _ (s₁.setTop (mkF m 14 #[.val (.ref ar), .val (.int (-2147483648 : Int32)), .val (.ref ar), .val (.int (1 : Int32)), .val (.int (0 : Int32)), .unset] [(.int (1 : Int32)), (.int (0 : Int32))]))
  refine own_st (fun _ k => XS.icmpNo X0.here hx rfl (hb hby d1_14) rfl (tlt (by decide : ((0 : Int32) < (1 : Int32)))).2.1 k) ?_
  show own_Go _ _ _ _ (s₁.setTop (mkF m 17 #[.val (.ref ar), .val (.int (-2147483648 : Int32)), .val (.ref ar), .val (.int (1 : Int32)), .val (.int (0 : Int32)), .unset] []))
  refine own_st (fun _ k => XS.aloadN X0.here hx rfl (hb hby d1_17) rfl rfl k) ?_
  show own_Go _ _ _ _ (s₁.setTop (mkF m 18 #[.val (.ref ar), .val (.int (-2147483648 : Int32)), .val (.ref ar), .val (.int (1 : Int32)), .val (.int (0 : Int32)), .unset] [(.ref ar)]))
  refine own_st (fun _ k => XS.iload X0.here hx rfl (hb hby d1_18) rfl k) ?_
  show own_Go _ _ _ _ (s₁.setTop (mkF m 20 #[.val (.ref ar), .val (.int (-2147483648 : Int32)), .val (.ref ar), .val (.int (1 : Int32)), .val (.int (0 : Int32)), .unset] [(.int (0 : Int32)), (.ref ar)]))
  obtain ⟨cl4, Ar4, -, Sz4, Nn4, Hs4, -⟩ := id V_ar
  have hin4 : ¬ ((0 : Int32) < 0 ∨ cl4.slots.size ≤ ((0 : Int32)).toNatClampNeg) := inb_of Sz4 ⟨(by decide : ¬ ((0 : Int32) < (0 : Int32))), (by decide : (0 : Int32) < (1 : Int32))⟩
  have hat4 : cl4.slots[((0 : Int32)).toNatClampNeg]? = some (.int v0) := Hs4.at hin4 rfl
  refine own_st (X0.iaload hx (j := (0 : Int32)) (v := (.int v0)) (by rw [e0]; exact Ar4.1) (State.isArrayOf_alike hZ.alike Ar4.2.1) Ar4.2.2 hin4 hat4 (g := (mkF m 20 #[.val (.ref ar), .val (.int (-2147483648 : Int32)), .val (.ref ar), .val (.int (1 : Int32)), .val (.int (0 : Int32)), .unset] [(.int (0 : Int32)), (.ref ar)])) rfl rfl (hb hby d1_20)) ?_
  show own_Go _ _ _ _ (s₁.setTop (mkF m 21 #[.val (.ref ar), .val (.int (-2147483648 : Int32)), .val (.ref ar), .val (.int (1 : Int32)), .val (.int (0 : Int32)), .unset] [(.int v0)]))
  refine own_st (fun _ k => XS.istore X0.here hx rfl (hb hby d1_21) rfl (l' := #[.val (.ref ar), .val (.int (-2147483648 : Int32)), .val (.ref ar), .val (.int (1 : Int32)), .val (.int (0 : Int32)), .val (.int v0)]) rfl k) ?_
  show own_Go _ _ _ _ (s₁.setTop (mkF m 23 #[.val (.ref ar), .val (.int (-2147483648 : Int32)), .val (.ref ar), .val (.int (1 : Int32)), .val (.int (0 : Int32)), .val (.int v0)] []))
  refine own_st (fun _ k => XS.iloadN X0.here hx rfl (hb hby d1_23) rfl k) ?_
  show own_Go _ _ _ _ (s₁.setTop (mkF m 24 #[.val (.ref ar), .val (.int (-2147483648 : Int32)), .val (.ref ar), .val (.int (1 : Int32)), .val (.int (0 : Int32)), .val (.int v0)] [(.int (-2147483648 : Int32))]))
  refine own_st (fun _ k => XS.iload X0.here hx rfl (hb hby d1_24) rfl k) ?_
  show own_Go _ _ _ _ (s₁.setTop (mkF m 26 #[.val (.ref ar), .val (.int (-2147483648 : Int32)), .val (.ref ar), .val (.int (1 : Int32)), .val (.int (0 : Int32)), .val (.int v0)] [(.int v0), (.int (-2147483648 : Int32))]))
  obtain ⟨_, _, ⟨T5, L5, k5, n5⟩, -, X5, ⟨Lc5, hQ5, l5, y5, z5⟩, st5⟩ := Jvm.LawKit.callS X0 hx (y := (⟨"java/lang/Math", "max", "(II)I"⟩ : MethodName)) hown (mvT hZ (hw _ (List.mem_of_getElem? (i := 7) rfl))) (mvT hZ (hw _ (List.mem_of_getElem? (i := 8) rfl))) (mvT hZ (hw _ (List.mem_of_getElem? (i := 9) rfl))) (mvT hZ (hw _ (List.mem_of_getElem? (i := 10) rfl))) (by decide) (backOf (W := 0) (rm2 l Z a0 hw [] (-2147483648 : Int32) v0 h0 n0 Z0 ) hZ (hw _ (List.mem_of_getElem? (i := 10) rfl)) (hw _ (List.mem_of_getElem? (i := 9) rfl)) (by decide) (by decide)) (g := (mkF m 26 #[.val (.ref ar), .val (.int (-2147483648 : Int32)), .val (.ref ar), .val (.int (1 : Int32)), .val (.int (0 : Int32)), .val (.int v0)] [(.int v0), (.int (-2147483648 : Int32))])) rfl (by rw [hml]; rfl) (argsL := [(.int (-2147483648 : Int32)), (.int v0)]) (rest := []) (lenOf own_pd0 rfl) rfl (by show 2 * 0 + _ ≤ _; exact Nat.le_of_eq rfl) (hb hby d1_26) (fun _ _ => ⟨rfl, e0, (by decide : 0 + 0 ≤ _), (by decide : 0 + 0 ≤ _)⟩)
  dsimp only [Pt.U, Pt.locs, Pt.cells, Pt.slots] at X5 l5 y5 z5 st5 hQ5
  subst l5 y5 z5
  obtain ⟨rfl, Nq5, eq5⟩ := hQ5
  have N5 := Fr.app N0 Nq5
  refine own_st st5 ?_
  show own_Go _ _ _ _ (T5.setTop (mkF m 29 #[.val (.ref ar), .val (.int (-2147483648 : Int32)), .val (.ref ar), .val (.int (1 : Int32)), .val (.int (0 : Int32)), .val (.int v0)] [(.int (own_mx (-2147483648 : Int32) v0))]))
  refine own_st (fun _ k => XS.istoreN X5.here hx rfl (hb hby d1_29) rfl (l' := #[.val (.ref ar), .val (.int (own_mx (-2147483648 : Int32) v0)), .val (.ref ar), .val (.int (1 : Int32)), .val (.int (0 : Int32)), .val (.int v0)]) rfl k) ?_
  show own_Go _ _ _ _ (T5.setTop (mkF m 30 #[.val (.ref ar), .val (.int (own_mx (-2147483648 : Int32) v0)), .val (.ref ar), .val (.int (1 : Int32)), .val (.int (0 : Int32)), .val (.int v0)] []))
  refine own_st (fun _ k => XS.iinc X5.here hx rfl (hb hby d1_30) rfl (l' := #[.val (.ref ar), .val (.int (own_mx (-2147483648 : Int32) v0)), .val (.ref ar), .val (.int (1 : Int32)), .val (.int (1 : Int32)), .val (.int v0)]) rfl k) ?_
  show own_Go _ _ _ _ (T5.setTop (mkF m 33 #[.val (.ref ar), .val (.int (own_mx (-2147483648 : Int32) v0)), .val (.ref ar), .val (.int (1 : Int32)), .val (.int (1 : Int32)), .val (.int v0)] []))
  refine own_st (fun _ k => XS.goto X5.here hx rfl (pc0 := 33) (pc' := 11) rfl (hb hby d1_33) (by decide) (by decide) k) ?_
  show own_Go _ _ _ _ (T5.setTop (mkF m 11 #[.val (.ref ar), .val (.int (own_mx (-2147483648 : Int32) v0)), .val (.ref ar), .val (.int (1 : Int32)), .val (.int (1 : Int32)), .val (.int v0)] []))
  refine own_st (fun _ k => XS.iload X5.here hx rfl (hb hby d1_11) rfl k) ?_
  show own_Go _ _ _ _ (T5.setTop (mkF m 13 #[.val (.ref ar), .val (.int (own_mx (-2147483648 : Int32) v0)), .val (.ref ar), .val (.int (1 : Int32)), .val (.int (1 : Int32)), .val (.int v0)] [(.int (1 : Int32))]))
  refine own_st (fun _ k => XS.iloadN X5.here hx rfl (hb hby d1_13) rfl k) ?_
  show own_Go _ _ _ _ (T5.setTop (mkF m 14 #[.val (.ref ar), .val (.int (own_mx (-2147483648 : Int32) v0)), .val (.ref ar), .val (.int (1 : Int32)), .val (.int (1 : Int32)), .val (.int v0)] [(.int (1 : Int32)), (.int (1 : Int32))]))
  refine own_st (fun _ k => XS.icmpYes X5.here hx rfl (pc0 := 14) (pc' := 36) rfl (hb hby d1_14) rfl (flt (by decide : ¬ ((1 : Int32) < (1 : Int32)))).2.1 (by decide) (by decide) k) ?_
  show own_Go _ _ _ _ (T5.setTop (mkF m 36 #[.val (.ref ar), .val (.int (own_mx (-2147483648 : Int32) v0)), .val (.ref ar), .val (.int (1 : Int32)), .val (.int (1 : Int32)), .val (.int v0)] []))
  refine own_st (fun _ k => XS.iloadN X5.here hx rfl (hb hby d1_36) rfl k) ?_
  show own_Go _ _ _ _ (T5.setTop (mkF m 37 #[.val (.ref ar), .val (.int (own_mx (-2147483648 : Int32) v0)), .val (.ref ar), .val (.int (1 : Int32)), .val (.int (1 : Int32)), .val (.int v0)] [(.int (own_mx (-2147483648 : Int32) v0))]))
  obtain ⟨fs, hr, hrun, hended, hW, hsame⟩ := X5.leave (v := some (.int (own_mx (-2147483648 : Int32) v0))) (fun h => by rw [Bd.returns] at h; cases h)
  refine own_out (own_retI X5 hx Bd.returns (hb hby d1_37) hr) ⟨hrun, hended, _, _, rfl, ?_, ⟨_, rfl⟩, hW, hsame.mono (by decide) (by decide)⟩
  show Q1_1 Z ar kk v0 h0 n0 _ T5.heap _
  have hv : own_la1 v0 = (own_mx (-2147483648 : Int32) v0) := rfl
  exact ⟨by rw [hv], N5, eq5⟩
def own_la2 (v0 : Int32) (v1 : Int32) : Int32 := (own_mx (own_mx (-2147483648 : Int32) v0) v1)
def Q1_2 (Z : State) (ar : Addr) (kk : ClassId) (v0 : Int32) (v1 : Int32) (h0 : Heap) (n0 : Nat) (v : Option Value) (h : Heap) (L : List Loc) : Prop := v = some (.int (own_la2 v0 v1)) ∧ Fr n0 L ∧ h = h0
theorem ef_1_2 (m : MethodId) (x0 : Addr) : entryFrame m #[(.ref x0)] 6 = mkF m 0 #[.val (.ref x0), .unset, .unset, .unset, .unset, .unset] [] := by first | (simp [entryFrame, mkF, argsToLocals, Value.category]; done) | rfl
set_option maxRecDepth 65536 in
set_option maxHeartbeats 40000000 in
theorem rm1_2 (l : Launch) (Z : State) (a0 : Array Value) (hw : ∀ d ∈ tables_1, d.before a0 Z = true) (ws : List Jvm.Cond) (ar : Addr) (kk : ClassId) (v0 : Int32) (v1 : Int32) (h0 : Heap) (n0 : Nat) (Z0 : n0 ≤ h0.size) (V_ar : Arv Z h0 ar kk .int (2 : Int32) [.int v0, .int v1] (.int (0 : Int32))) :
    MetFree l (⟨"com/example/barred_owl/barredowl/Representation", "largest", "([I)I"⟩ : MethodName) (head1 (Jvm.Cond.code (⟨"com/example/barred_owl/barredowl/Representation", "largest", "([I)I"⟩ : MethodName) prog_55_method_21_code 6 (some .int) :: ws) ({ frames := 1, cells := 0, slots := 0, locals := 20 } : Room)) (fun a U => a = #[(.ref ar)] ∧ Z.Warmed39 U.vm ∧ U.heap = h0) (fun _ _ _ _ _ => True) (fun _ U o U' => ∃ v L, o = .returned v ∧ Q1_2 Z ar kk v0 v1 h0 n0 v U'.heap L ∧ FrameEnd U o U' L ({ frames := 1, cells := 0, slots := 0, locals := 20 } : Room).cells ({ frames := 1, cells := 0, slots := 0, locals := 20 } : Room).slots) := by
  refine MetFree.of_bodySF (plainFor_of_name own_pn0) hisR ?_
  intro p e s m args below meth c s₁ Bd hml0 hP hK
  obtain ⟨rfl, hZ, hh⟩ := hP
  have hx := Bd.exec
  have hby := Bd.bytes
  have hml : c.maxLocals = 6 := hml0
  have hown : s.vm.findClass "com/example/barred_owl/barredowl/Representation" = some m.cls := findClass_of_methodNamed Bd.named
  have hnm := (name_of_methodNamed Bd.named Bd.method).1
  have X0 : Stand p l e ({ frames := 1, cells := 0, slots := 0, locals := 20 } : Room) s m #[(.ref ar)] below meth c s₁ [] 0 0 := Stand.of_body Bd
  have e0 : s₁.heap = h0 := by rw [← hh, Bd.state]; rfl
  have N0 := Fr.nil n0
  refine own_in ?_
  refine own_st (fun _ k => castTop (ef_1_2 m ar) k) ?_
  have K0 : Keep h0 h0 [] := Keep.refl h0 []
  show own_Go _ _ _ _ (s₁.setTop (mkF m 0 #[.val (.ref ar), .unset, .unset, .unset, .unset, .unset] []))
  refine own_st (fun _ k => X0.ldcInt hx hown (mvT hZ (hw _ (List.mem_of_getElem? (i := 6) rfl))) (g := (mkF m 0 #[.val (.ref ar), .unset, .unset, .unset, .unset, .unset] [])) rfl (hb hby d1_0) _ k) ?_
  show own_Go _ _ _ _ (s₁.setTop (mkF m 2 #[.val (.ref ar), .unset, .unset, .unset, .unset, .unset] [(.int (-2147483648 : Int32))]))
  refine own_st (fun _ k => XS.istoreN X0.here hx rfl (hb hby d1_2) rfl (l' := #[.val (.ref ar), .val (.int (-2147483648 : Int32)), .unset, .unset, .unset, .unset]) rfl k) ?_
  show own_Go _ _ _ _ (s₁.setTop (mkF m 3 #[.val (.ref ar), .val (.int (-2147483648 : Int32)), .unset, .unset, .unset, .unset] []))
  refine own_st (fun _ k => XS.aloadN X0.here hx rfl (hb hby d1_3) rfl rfl k) ?_
  show own_Go _ _ _ _ (s₁.setTop (mkF m 4 #[.val (.ref ar), .val (.int (-2147483648 : Int32)), .unset, .unset, .unset, .unset] [(.ref ar)]))
  refine own_st (fun _ k => XS.astoreN X0.here hx rfl (hb hby d1_4) rfl rfl (l' := #[.val (.ref ar), .val (.int (-2147483648 : Int32)), .val (.ref ar), .unset, .unset, .unset]) rfl k) ?_
  show own_Go _ _ _ _ (s₁.setTop (mkF m 5 #[.val (.ref ar), .val (.int (-2147483648 : Int32)), .val (.ref ar), .unset, .unset, .unset] []))
  refine own_st (fun _ k => XS.aloadN X0.here hx rfl (hb hby d1_5) rfl rfl k) ?_
  show own_Go _ _ _ _ (s₁.setTop (mkF m 6 #[.val (.ref ar), .val (.int (-2147483648 : Int32)), .val (.ref ar), .unset, .unset, .unset] [(.ref ar)]))
  obtain ⟨cl6, Ar6, -, Sz6, Nn6, -, -⟩ := id V_ar
  refine own_st (X0.arraylength hx (by rw [e0]; exact Ar6.1) (State.isArrayOf_alike hZ.alike Ar6.2.1) (g := (mkF m 6 #[.val (.ref ar), .val (.int (-2147483648 : Int32)), .val (.ref ar), .unset, .unset, .unset] [(.ref ar)])) rfl rfl (hb hby d1_6)) ?_
  rw [len_of Sz6 Nn6]
  show own_Go _ _ _ _ (s₁.setTop (mkF m 7 #[.val (.ref ar), .val (.int (-2147483648 : Int32)), .val (.ref ar), .unset, .unset, .unset] [(.int (2 : Int32))]))
  refine own_st (fun _ k => XS.istoreN X0.here hx rfl (hb hby d1_7) rfl (l' := #[.val (.ref ar), .val (.int (-2147483648 : Int32)), .val (.ref ar), .val (.int (2 : Int32)), .unset, .unset]) rfl k) ?_
  show own_Go _ _ _ _ (s₁.setTop (mkF m 8 #[.val (.ref ar), .val (.int (-2147483648 : Int32)), .val (.ref ar), .val (.int (2 : Int32)), .unset, .unset] []))
  refine own_st (fun _ k => XS.iconst X0.here hx rfl (hb hby d1_8) k) ?_
  show own_Go _ _ _ _ (s₁.setTop (mkF m 9 #[.val (.ref ar), .val (.int (-2147483648 : Int32)), .val (.ref ar), .val (.int (2 : Int32)), .unset, .unset] [(.int (0 : Int32))]))
  refine own_st (fun _ k => XS.istore X0.here hx rfl (hb hby d1_9) rfl (l' := #[.val (.ref ar), .val (.int (-2147483648 : Int32)), .val (.ref ar), .val (.int (2 : Int32)), .val (.int (0 : Int32)), .unset]) rfl k) ?_
  show own_Go _ _ _ _ (s₁.setTop (mkF m 11 #[.val (.ref ar), .val (.int (-2147483648 : Int32)), .val (.ref ar), .val (.int (2 : Int32)), .val (.int (0 : Int32)), .unset] []))
  refine own_st (fun _ k => XS.iload X0.here hx rfl (hb hby d1_11) rfl k) ?_
  show own_Go _ _ _ _ (s₁.setTop (mkF m 13 #[.val (.ref ar), .val (.int (-2147483648 : Int32)), .val (.ref ar), .val (.int (2 : Int32)), .val (.int (0 : Int32)), .unset] [(.int (0 : Int32))]))
  refine own_st (fun _ k => XS.iloadN X0.here hx rfl (hb hby d1_13) rfl k) ?_
  show own_Go _ _ _ _ (s₁.setTop (mkF m 14 #[.val (.ref ar), .val (.int (-2147483648 : Int32)), .val (.ref ar), .val (.int (2 : Int32)), .val (.int (0 : Int32)), .unset] [(.int (2 : Int32)), (.int (0 : Int32))]))
  refine own_st (fun _ k => XS.icmpNo X0.here hx rfl (hb hby d1_14) rfl (tlt (by decide : ((0 : Int32) < (2 : Int32)))).2.1 k) ?_
  show own_Go _ _ _ _ (s₁.setTop (mkF m 17 #[.val (.ref ar), .val (.int (-2147483648 : Int32)), .val (.ref ar), .val (.int (2 : Int32)), .val (.int (0 : Int32)), .unset] []))
  refine own_st (fun _ k => XS.aloadN X0.here hx rfl (hb hby d1_17) rfl rfl k) ?_
  show own_Go _ _ _ _ (s₁.setTop (mkF m 18 #[.val (.ref ar), .val (.int (-2147483648 : Int32)), .val (.ref ar), .val (.int (2 : Int32)), .val (.int (0 : Int32)), .unset] [(.ref ar)]))
  refine own_st (fun _ k => XS.iload X0.here hx rfl (hb hby d1_18) rfl k) ?_
  show own_Go _ _ _ _ (s₁.setTop (mkF m 20 #[.val (.ref ar), .val (.int (-2147483648 : Int32)), .val (.ref ar), .val (.int (2 : Int32)), .val (.int (0 : Int32)), .unset] [(.int (0 : Int32)), (.ref ar)]))
  obtain ⟨cl7, Ar7, -, Sz7, Nn7, Hs7, -⟩ := id V_ar
  have hin7 : ¬ ((0 : Int32) < 0 ∨ cl7.slots.size ≤ ((0 : Int32)).toNatClampNeg) := inb_of Sz7 ⟨(by decide : ¬ ((0 : Int32) < (0 : Int32))), (by decide : (0 : Int32) < (2 : Int32))⟩
  have hat7 : cl7.slots[((0 : Int32)).toNatClampNeg]? = some (.int v0) := Hs7.at hin7 rfl
  refine own_st (X0.iaload hx (j := (0 : Int32)) (v := (.int v0)) (by rw [e0]; exact Ar7.1) (State.isArrayOf_alike hZ.alike Ar7.2.1) Ar7.2.2 hin7 hat7 (g := (mkF m 20 #[.val (.ref ar), .val (.int (-2147483648 : Int32)), .val (.ref ar), .val (.int (2 : Int32)), .val (.int (0 : Int32)), .unset] [(.int (0 : Int32)), (.ref ar)])) rfl rfl (hb hby d1_20)) ?_
  show own_Go _ _ _ _ (s₁.setTop (mkF m 21 #[.val (.ref ar), .val (.int (-2147483648 : Int32)), .val (.ref ar), .val (.int (2 : Int32)), .val (.int (0 : Int32)), .unset] [(.int v0)]))
  refine own_st (fun _ k => XS.istore X0.here hx rfl (hb hby d1_21) rfl (l' := #[.val (.ref ar), .val (.int (-2147483648 : Int32)), .val (.ref ar), .val (.int (2 : Int32)), .val (.int (0 : Int32)), .val (.int v0)]) rfl k) ?_
  show own_Go _ _ _ _ (s₁.setTop (mkF m 23 #[.val (.ref ar), .val (.int (-2147483648 : Int32)), .val (.ref ar), .val (.int (2 : Int32)), .val (.int (0 : Int32)), .val (.int v0)] []))
  refine own_st (fun _ k => XS.iloadN X0.here hx rfl (hb hby d1_23) rfl k) ?_
  show own_Go _ _ _ _ (s₁.setTop (mkF m 24 #[.val (.ref ar), .val (.int (-2147483648 : Int32)), .val (.ref ar), .val (.int (2 : Int32)), .val (.int (0 : Int32)), .val (.int v0)] [(.int (-2147483648 : Int32))]))
  refine own_st (fun _ k => XS.iload X0.here hx rfl (hb hby d1_24) rfl k) ?_
  show own_Go _ _ _ _ (s₁.setTop (mkF m 26 #[.val (.ref ar), .val (.int (-2147483648 : Int32)), .val (.ref ar), .val (.int (2 : Int32)), .val (.int (0 : Int32)), .val (.int v0)] [(.int v0), (.int (-2147483648 : Int32))]))
  obtain ⟨_, _, ⟨T8, L8, k8, n8⟩, -, X8, ⟨Lc8, hQ8, l8, y8, z8⟩, st8⟩ := Jvm.LawKit.callS X0 hx (y := (⟨"java/lang/Math", "max", "(II)I"⟩ : MethodName)) hown (mvT hZ (hw _ (List.mem_of_getElem? (i := 7) rfl))) (mvT hZ (hw _ (List.mem_of_getElem? (i := 8) rfl))) (mvT hZ (hw _ (List.mem_of_getElem? (i := 9) rfl))) (mvT hZ (hw _ (List.mem_of_getElem? (i := 10) rfl))) (by decide) (backOf (W := 0) (rm2 l Z a0 hw [] (-2147483648 : Int32) v0 h0 n0 Z0 ) hZ (hw _ (List.mem_of_getElem? (i := 10) rfl)) (hw _ (List.mem_of_getElem? (i := 9) rfl)) (by decide) (by decide)) (g := (mkF m 26 #[.val (.ref ar), .val (.int (-2147483648 : Int32)), .val (.ref ar), .val (.int (2 : Int32)), .val (.int (0 : Int32)), .val (.int v0)] [(.int v0), (.int (-2147483648 : Int32))])) rfl (by rw [hml]; rfl) (argsL := [(.int (-2147483648 : Int32)), (.int v0)]) (rest := []) (lenOf own_pd0 rfl) rfl (by show 2 * 0 + _ ≤ _; exact Nat.le_of_eq rfl) (hb hby d1_26) (fun _ _ => ⟨rfl, e0, (by decide : 0 + 0 ≤ _), (by decide : 0 + 0 ≤ _)⟩)
  dsimp only [Pt.U, Pt.locs, Pt.cells, Pt.slots] at X8 l8 y8 z8 st8 hQ8
  subst l8 y8 z8
  obtain ⟨rfl, Nq8, eq8⟩ := hQ8
  have N8 := Fr.app N0 Nq8
  refine own_st st8 ?_
  show own_Go _ _ _ _ (T8.setTop (mkF m 29 #[.val (.ref ar), .val (.int (-2147483648 : Int32)), .val (.ref ar), .val (.int (2 : Int32)), .val (.int (0 : Int32)), .val (.int v0)] [(.int (own_mx (-2147483648 : Int32) v0))]))
  refine own_st (fun _ k => XS.istoreN X8.here hx rfl (hb hby d1_29) rfl (l' := #[.val (.ref ar), .val (.int (own_mx (-2147483648 : Int32) v0)), .val (.ref ar), .val (.int (2 : Int32)), .val (.int (0 : Int32)), .val (.int v0)]) rfl k) ?_
  show own_Go _ _ _ _ (T8.setTop (mkF m 30 #[.val (.ref ar), .val (.int (own_mx (-2147483648 : Int32) v0)), .val (.ref ar), .val (.int (2 : Int32)), .val (.int (0 : Int32)), .val (.int v0)] []))
  refine own_st (fun _ k => XS.iinc X8.here hx rfl (hb hby d1_30) rfl (l' := #[.val (.ref ar), .val (.int (own_mx (-2147483648 : Int32) v0)), .val (.ref ar), .val (.int (2 : Int32)), .val (.int (1 : Int32)), .val (.int v0)]) rfl k) ?_
  show own_Go _ _ _ _ (T8.setTop (mkF m 33 #[.val (.ref ar), .val (.int (own_mx (-2147483648 : Int32) v0)), .val (.ref ar), .val (.int (2 : Int32)), .val (.int (1 : Int32)), .val (.int v0)] []))
  refine own_st (fun _ k => XS.goto X8.here hx rfl (pc0 := 33) (pc' := 11) rfl (hb hby d1_33) (by decide) (by decide) k) ?_
  show own_Go _ _ _ _ (T8.setTop (mkF m 11 #[.val (.ref ar), .val (.int (own_mx (-2147483648 : Int32) v0)), .val (.ref ar), .val (.int (2 : Int32)), .val (.int (1 : Int32)), .val (.int v0)] []))
  refine own_st (fun _ k => XS.iload X8.here hx rfl (hb hby d1_11) rfl k) ?_
  show own_Go _ _ _ _ (T8.setTop (mkF m 13 #[.val (.ref ar), .val (.int (own_mx (-2147483648 : Int32) v0)), .val (.ref ar), .val (.int (2 : Int32)), .val (.int (1 : Int32)), .val (.int v0)] [(.int (1 : Int32))]))
  refine own_st (fun _ k => XS.iloadN X8.here hx rfl (hb hby d1_13) rfl k) ?_
  show own_Go _ _ _ _ (T8.setTop (mkF m 14 #[.val (.ref ar), .val (.int (own_mx (-2147483648 : Int32) v0)), .val (.ref ar), .val (.int (2 : Int32)), .val (.int (1 : Int32)), .val (.int v0)] [(.int (2 : Int32)), (.int (1 : Int32))]))
  refine own_st (fun _ k => XS.icmpNo X8.here hx rfl (hb hby d1_14) rfl (tlt (by decide : ((1 : Int32) < (2 : Int32)))).2.1 k) ?_
  show own_Go _ _ _ _ (T8.setTop (mkF m 17 #[.val (.ref ar), .val (.int (own_mx (-2147483648 : Int32) v0)), .val (.ref ar), .val (.int (2 : Int32)), .val (.int (1 : Int32)), .val (.int v0)] []))
  refine own_st (fun _ k => XS.aloadN X8.here hx rfl (hb hby d1_17) rfl rfl k) ?_
  show own_Go _ _ _ _ (T8.setTop (mkF m 18 #[.val (.ref ar), .val (.int (own_mx (-2147483648 : Int32) v0)), .val (.ref ar), .val (.int (2 : Int32)), .val (.int (1 : Int32)), .val (.int v0)] [(.ref ar)]))
  refine own_st (fun _ k => XS.iload X8.here hx rfl (hb hby d1_18) rfl k) ?_
  show own_Go _ _ _ _ (T8.setTop (mkF m 20 #[.val (.ref ar), .val (.int (own_mx (-2147483648 : Int32) v0)), .val (.ref ar), .val (.int (2 : Int32)), .val (.int (1 : Int32)), .val (.int v0)] [(.int (1 : Int32)), (.ref ar)]))
  obtain ⟨cl9, Ar9, -, Sz9, Nn9, Hs9, -⟩ := id V_ar
  have hin9 : ¬ ((1 : Int32) < 0 ∨ cl9.slots.size ≤ ((1 : Int32)).toNatClampNeg) := inb_of Sz9 ⟨(by decide : ¬ ((1 : Int32) < (0 : Int32))), (by decide : (1 : Int32) < (2 : Int32))⟩
  have hat9 : cl9.slots[((1 : Int32)).toNatClampNeg]? = some (.int v1) := Hs9.at hin9 rfl
  refine own_st (X8.iaload hx (j := (1 : Int32)) (v := (.int v1)) (by rw [eq8]; exact Ar9.1) (State.isArrayOf_alike hZ.alike Ar9.2.1) Ar9.2.2 hin9 hat9 (g := (mkF m 20 #[.val (.ref ar), .val (.int (own_mx (-2147483648 : Int32) v0)), .val (.ref ar), .val (.int (2 : Int32)), .val (.int (1 : Int32)), .val (.int v0)] [(.int (1 : Int32)), (.ref ar)])) rfl rfl (hb hby d1_20)) ?_
  show own_Go _ _ _ _ (T8.setTop (mkF m 21 #[.val (.ref ar), .val (.int (own_mx (-2147483648 : Int32) v0)), .val (.ref ar), .val (.int (2 : Int32)), .val (.int (1 : Int32)), .val (.int v0)] [(.int v1)]))
  refine own_st (fun _ k => XS.istore X8.here hx rfl (hb hby d1_21) rfl (l' := #[.val (.ref ar), .val (.int (own_mx (-2147483648 : Int32) v0)), .val (.ref ar), .val (.int (2 : Int32)), .val (.int (1 : Int32)), .val (.int v1)]) rfl k) ?_
  show own_Go _ _ _ _ (T8.setTop (mkF m 23 #[.val (.ref ar), .val (.int (own_mx (-2147483648 : Int32) v0)), .val (.ref ar), .val (.int (2 : Int32)), .val (.int (1 : Int32)), .val (.int v1)] []))
  refine own_st (fun _ k => XS.iloadN X8.here hx rfl (hb hby d1_23) rfl k) ?_
  show own_Go _ _ _ _ (T8.setTop (mkF m 24 #[.val (.ref ar), .val (.int (own_mx (-2147483648 : Int32) v0)), .val (.ref ar), .val (.int (2 : Int32)), .val (.int (1 : Int32)), .val (.int v1)] [(.int (own_mx (-2147483648 : Int32) v0))]))
  refine own_st (fun _ k => XS.iload X8.here hx rfl (hb hby d1_24) rfl k) ?_
  show own_Go _ _ _ _ (T8.setTop (mkF m 26 #[.val (.ref ar), .val (.int (own_mx (-2147483648 : Int32) v0)), .val (.ref ar), .val (.int (2 : Int32)), .val (.int (1 : Int32)), .val (.int v1)] [(.int v1), (.int (own_mx (-2147483648 : Int32) v0))]))
  obtain ⟨_, _, ⟨T10, L10, k10, n10⟩, -, X10, ⟨Lc10, hQ10, l10, y10, z10⟩, st10⟩ := Jvm.LawKit.callS X8 hx (y := (⟨"java/lang/Math", "max", "(II)I"⟩ : MethodName)) hown (mvT hZ (hw _ (List.mem_of_getElem? (i := 7) rfl))) (mvT hZ (hw _ (List.mem_of_getElem? (i := 8) rfl))) (mvT hZ (hw _ (List.mem_of_getElem? (i := 9) rfl))) (mvT hZ (hw _ (List.mem_of_getElem? (i := 10) rfl))) (by decide) (backOf (W := 0) (rm2 l Z a0 hw [] (own_mx (-2147483648 : Int32) v0) v1 h0 n0 Z0 ) hZ (hw _ (List.mem_of_getElem? (i := 10) rfl)) (hw _ (List.mem_of_getElem? (i := 9) rfl)) (by decide) (by decide)) (g := (mkF m 26 #[.val (.ref ar), .val (.int (own_mx (-2147483648 : Int32) v0)), .val (.ref ar), .val (.int (2 : Int32)), .val (.int (1 : Int32)), .val (.int v1)] [(.int v1), (.int (own_mx (-2147483648 : Int32) v0))])) rfl (by rw [hml]; rfl) (argsL := [(.int (own_mx (-2147483648 : Int32) v0)), (.int v1)]) (rest := []) (lenOf own_pd0 rfl) rfl (by show 2 * 0 + _ ≤ _; exact Nat.le_of_eq rfl) (hb hby d1_26) (fun _ _ => ⟨rfl, eq8, (by decide : 0 + 0 ≤ _), (by decide : 0 + 0 ≤ _)⟩)
  dsimp only [Pt.U, Pt.locs, Pt.cells, Pt.slots] at X10 l10 y10 z10 st10 hQ10
  subst l10 y10 z10
  obtain ⟨rfl, Nq10, eq10⟩ := hQ10
  have N10 := Fr.app N8 Nq10
  refine own_st st10 ?_
  show own_Go _ _ _ _ (T10.setTop (mkF m 29 #[.val (.ref ar), .val (.int (own_mx (-2147483648 : Int32) v0)), .val (.ref ar), .val (.int (2 : Int32)), .val (.int (1 : Int32)), .val (.int v1)] [(.int (own_mx (own_mx (-2147483648 : Int32) v0) v1))]))
  refine own_st (fun _ k => XS.istoreN X10.here hx rfl (hb hby d1_29) rfl (l' := #[.val (.ref ar), .val (.int (own_mx (own_mx (-2147483648 : Int32) v0) v1)), .val (.ref ar), .val (.int (2 : Int32)), .val (.int (1 : Int32)), .val (.int v1)]) rfl k) ?_
  show own_Go _ _ _ _ (T10.setTop (mkF m 30 #[.val (.ref ar), .val (.int (own_mx (own_mx (-2147483648 : Int32) v0) v1)), .val (.ref ar), .val (.int (2 : Int32)), .val (.int (1 : Int32)), .val (.int v1)] []))
  refine own_st (fun _ k => XS.iinc X10.here hx rfl (hb hby d1_30) rfl (l' := #[.val (.ref ar), .val (.int (own_mx (own_mx (-2147483648 : Int32) v0) v1)), .val (.ref ar), .val (.int (2 : Int32)), .val (.int (2 : Int32)), .val (.int v1)]) rfl k) ?_
  show own_Go _ _ _ _ (T10.setTop (mkF m 33 #[.val (.ref ar), .val (.int (own_mx (own_mx (-2147483648 : Int32) v0) v1)), .val (.ref ar), .val (.int (2 : Int32)), .val (.int (2 : Int32)), .val (.int v1)] []))
  refine own_st (fun _ k => XS.goto X10.here hx rfl (pc0 := 33) (pc' := 11) rfl (hb hby d1_33) (by decide) (by decide) k) ?_
  show own_Go _ _ _ _ (T10.setTop (mkF m 11 #[.val (.ref ar), .val (.int (own_mx (own_mx (-2147483648 : Int32) v0) v1)), .val (.ref ar), .val (.int (2 : Int32)), .val (.int (2 : Int32)), .val (.int v1)] []))
  refine own_st (fun _ k => XS.iload X10.here hx rfl (hb hby d1_11) rfl k) ?_
  show own_Go _ _ _ _ (T10.setTop (mkF m 13 #[.val (.ref ar), .val (.int (own_mx (own_mx (-2147483648 : Int32) v0) v1)), .val (.ref ar), .val (.int (2 : Int32)), .val (.int (2 : Int32)), .val (.int v1)] [(.int (2 : Int32))]))
  refine own_st (fun _ k => XS.iloadN X10.here hx rfl (hb hby d1_13) rfl k) ?_
  show own_Go _ _ _ _ (T10.setTop (mkF m 14 #[.val (.ref ar), .val (.int (own_mx (own_mx (-2147483648 : Int32) v0) v1)), .val (.ref ar), .val (.int (2 : Int32)), .val (.int (2 : Int32)), .val (.int v1)] [(.int (2 : Int32)), (.int (2 : Int32))]))
  refine own_st (fun _ k => XS.icmpYes X10.here hx rfl (pc0 := 14) (pc' := 36) rfl (hb hby d1_14) rfl (flt (by decide : ¬ ((2 : Int32) < (2 : Int32)))).2.1 (by decide) (by decide) k) ?_
  show own_Go _ _ _ _ (T10.setTop (mkF m 36 #[.val (.ref ar), .val (.int (own_mx (own_mx (-2147483648 : Int32) v0) v1)), .val (.ref ar), .val (.int (2 : Int32)), .val (.int (2 : Int32)), .val (.int v1)] []))
  refine own_st (fun _ k => XS.iloadN X10.here hx rfl (hb hby d1_36) rfl k) ?_
  show own_Go _ _ _ _ (T10.setTop (mkF m 37 #[.val (.ref ar), .val (.int (own_mx (own_mx (-2147483648 : Int32) v0) v1)), .val (.ref ar), .val (.int (2 : Int32)), .val (.int (2 : Int32)), .val (.int v1)] [(.int (own_mx (own_mx (-2147483648 : Int32) v0) v1))]))
  obtain ⟨fs, hr, hrun, hended, hW, hsame⟩ := X10.leave (v := some (.int (own_mx (own_mx (-2147483648 : Int32) v0) v1))) (fun h => by rw [Bd.returns] at h; cases h)
  refine own_out (own_retI X10 hx Bd.returns (hb hby d1_37) hr) ⟨hrun, hended, _, _, rfl, ?_, ⟨_, rfl⟩, hW, hsame.mono (by decide) (by decide)⟩
  show Q1_2 Z ar kk v0 v1 h0 n0 _ T10.heap _
  have hv : own_la2 v0 v1 = (own_mx (own_mx (-2147483648 : Int32) v0) v1) := rfl
  exact ⟨by rw [hv], N10, eq10⟩
def own_la3 (v0 : Int32) (v1 : Int32) (v2 : Int32) : Int32 := (own_mx (own_mx (own_mx (-2147483648 : Int32) v0) v1) v2)
def Q1_3 (Z : State) (ar : Addr) (kk : ClassId) (v0 : Int32) (v1 : Int32) (v2 : Int32) (h0 : Heap) (n0 : Nat) (v : Option Value) (h : Heap) (L : List Loc) : Prop := v = some (.int (own_la3 v0 v1 v2)) ∧ Fr n0 L ∧ h = h0
theorem ef_1_3 (m : MethodId) (x0 : Addr) : entryFrame m #[(.ref x0)] 6 = mkF m 0 #[.val (.ref x0), .unset, .unset, .unset, .unset, .unset] [] := by first | (simp [entryFrame, mkF, argsToLocals, Value.category]; done) | rfl
set_option maxRecDepth 65536 in
set_option maxHeartbeats 40000000 in
theorem rm1_3 (l : Launch) (Z : State) (a0 : Array Value) (hw : ∀ d ∈ tables_1, d.before a0 Z = true) (ws : List Jvm.Cond) (ar : Addr) (kk : ClassId) (v0 : Int32) (v1 : Int32) (v2 : Int32) (h0 : Heap) (n0 : Nat) (Z0 : n0 ≤ h0.size) (V_ar : Arv Z h0 ar kk .int (3 : Int32) [.int v0, .int v1, .int v2] (.int (0 : Int32))) :
    MetFree l (⟨"com/example/barred_owl/barredowl/Representation", "largest", "([I)I"⟩ : MethodName) (head1 (Jvm.Cond.code (⟨"com/example/barred_owl/barredowl/Representation", "largest", "([I)I"⟩ : MethodName) prog_55_method_21_code 6 (some .int) :: ws) ({ frames := 1, cells := 0, slots := 0, locals := 20 } : Room)) (fun a U => a = #[(.ref ar)] ∧ Z.Warmed39 U.vm ∧ U.heap = h0) (fun _ _ _ _ _ => True) (fun _ U o U' => ∃ v L, o = .returned v ∧ Q1_3 Z ar kk v0 v1 v2 h0 n0 v U'.heap L ∧ FrameEnd U o U' L ({ frames := 1, cells := 0, slots := 0, locals := 20 } : Room).cells ({ frames := 1, cells := 0, slots := 0, locals := 20 } : Room).slots) := by
  refine MetFree.of_bodySF (plainFor_of_name own_pn0) hisR ?_
  intro p e s m args below meth c s₁ Bd hml0 hP hK
  obtain ⟨rfl, hZ, hh⟩ := hP
  have hx := Bd.exec
  have hby := Bd.bytes
  have hml : c.maxLocals = 6 := hml0
  have hown : s.vm.findClass "com/example/barred_owl/barredowl/Representation" = some m.cls := findClass_of_methodNamed Bd.named
  have hnm := (name_of_methodNamed Bd.named Bd.method).1
  have X0 : Stand p l e ({ frames := 1, cells := 0, slots := 0, locals := 20 } : Room) s m #[(.ref ar)] below meth c s₁ [] 0 0 := Stand.of_body Bd
  have e0 : s₁.heap = h0 := by rw [← hh, Bd.state]; rfl
  have N0 := Fr.nil n0
  refine own_in ?_
  refine own_st (fun _ k => castTop (ef_1_3 m ar) k) ?_
  have K0 : Keep h0 h0 [] := Keep.refl h0 []
  show own_Go _ _ _ _ (s₁.setTop (mkF m 0 #[.val (.ref ar), .unset, .unset, .unset, .unset, .unset] []))
  refine own_st (fun _ k => X0.ldcInt hx hown (mvT hZ (hw _ (List.mem_of_getElem? (i := 6) rfl))) (g := (mkF m 0 #[.val (.ref ar), .unset, .unset, .unset, .unset, .unset] [])) rfl (hb hby d1_0) _ k) ?_
  show own_Go _ _ _ _ (s₁.setTop (mkF m 2 #[.val (.ref ar), .unset, .unset, .unset, .unset, .unset] [(.int (-2147483648 : Int32))]))
  refine own_st (fun _ k => XS.istoreN X0.here hx rfl (hb hby d1_2) rfl (l' := #[.val (.ref ar), .val (.int (-2147483648 : Int32)), .unset, .unset, .unset, .unset]) rfl k) ?_
  show own_Go _ _ _ _ (s₁.setTop (mkF m 3 #[.val (.ref ar), .val (.int (-2147483648 : Int32)), .unset, .unset, .unset, .unset] []))
  refine own_st (fun _ k => XS.aloadN X0.here hx rfl (hb hby d1_3) rfl rfl k) ?_
  show own_Go _ _ _ _ (s₁.setTop (mkF m 4 #[.val (.ref ar), .val (.int (-2147483648 : Int32)), .unset, .unset, .unset, .unset] [(.ref ar)]))
  refine own_st (fun _ k => XS.astoreN X0.here hx rfl (hb hby d1_4) rfl rfl (l' := #[.val (.ref ar), .val (.int (-2147483648 : Int32)), .val (.ref ar), .unset, .unset, .unset]) rfl k) ?_
  show own_Go _ _ _ _ (s₁.setTop (mkF m 5 #[.val (.ref ar), .val (.int (-2147483648 : Int32)), .val (.ref ar), .unset, .unset, .unset] []))
  refine own_st (fun _ k => XS.aloadN X0.here hx rfl (hb hby d1_5) rfl rfl k) ?_
  show own_Go _ _ _ _ (s₁.setTop (mkF m 6 #[.val (.ref ar), .val (.int (-2147483648 : Int32)), .val (.ref ar), .unset, .unset, .unset] [(.ref ar)]))
  obtain ⟨cl11, Ar11, -, Sz11, Nn11, -, -⟩ := id V_ar
  refine own_st (X0.arraylength hx (by rw [e0]; exact Ar11.1) (State.isArrayOf_alike hZ.alike Ar11.2.1) (g := (mkF m 6 #[.val (.ref ar), .val (.int (-2147483648 : Int32)), .val (.ref ar), .unset, .unset, .unset] [(.ref ar)])) rfl rfl (hb hby d1_6)) ?_
  rw [len_of Sz11 Nn11]
  show own_Go _ _ _ _ (s₁.setTop (mkF m 7 #[.val (.ref ar), .val (.int (-2147483648 : Int32)), .val (.ref ar), .unset, .unset, .unset] [(.int (3 : Int32))]))
  refine own_st (fun _ k => XS.istoreN X0.here hx rfl (hb hby d1_7) rfl (l' := #[.val (.ref ar), .val (.int (-2147483648 : Int32)), .val (.ref ar), .val (.int (3 : Int32)), .unset, .unset]) rfl k) ?_
  show own_Go _ _ _ _ (s₁.setTop (mkF m 8 #[.val (.ref ar), .val (.int (-2147483648 : Int32)), .val (.ref ar), .val (.int (3 : Int32)), .unset, .unset] []))
  refine own_st (fun _ k => XS.iconst X0.here hx rfl (hb hby d1_8) k) ?_
  show own_Go _ _ _ _ (s₁.setTop (mkF m 9 #[.val (.ref ar), .val (.int (-2147483648 : Int32)), .val (.ref ar), .val (.int (3 : Int32)), .unset, .unset] [(.int (0 : Int32))]))
  refine own_st (fun _ k => XS.istore X0.here hx rfl (hb hby d1_9) rfl (l' := #[.val (.ref ar), .val (.int (-2147483648 : Int32)), .val (.ref ar), .val (.int (3 : Int32)), .val (.int (0 : Int32)), .unset]) rfl k) ?_
  show own_Go _ _ _ _ (s₁.setTop (mkF m 11 #[.val (.ref ar), .val (.int (-2147483648 : Int32)), .val (.ref ar), .val (.int (3 : Int32)), .val (.int (0 : Int32)), .unset] []))
  refine own_st (fun _ k => XS.iload X0.here hx rfl (hb hby d1_11) rfl k) ?_
  show own_Go _ _ _ _ (s₁.setTop (mkF m 13 #[.val (.ref ar), .val (.int (-2147483648 : Int32)), .val (.ref ar), .val (.int (3 : Int32)), .val (.int (0 : Int32)), .unset] [(.int (0 : Int32))]))
  refine own_st (fun _ k => XS.iloadN X0.here hx rfl (hb hby d1_13) rfl k) ?_
  show own_Go _ _ _ _ (s₁.setTop (mkF m 14 #[.val (.ref ar), .val (.int (-2147483648 : Int32)), .val (.ref ar), .val (.int (3 : Int32)), .val (.int (0 : Int32)), .unset] [(.int (3 : Int32)), (.int (0 : Int32))]))
  refine own_st (fun _ k => XS.icmpNo X0.here hx rfl (hb hby d1_14) rfl (tlt (by decide : ((0 : Int32) < (3 : Int32)))).2.1 k) ?_
  show own_Go _ _ _ _ (s₁.setTop (mkF m 17 #[.val (.ref ar), .val (.int (-2147483648 : Int32)), .val (.ref ar), .val (.int (3 : Int32)), .val (.int (0 : Int32)), .unset] []))
  refine own_st (fun _ k => XS.aloadN X0.here hx rfl (hb hby d1_17) rfl rfl k) ?_
  show own_Go _ _ _ _ (s₁.setTop (mkF m 18 #[.val (.ref ar), .val (.int (-2147483648 : Int32)), .val (.ref ar), .val (.int (3 : Int32)), .val (.int (0 : Int32)), .unset] [(.ref ar)]))
  refine own_st (fun _ k => XS.iload X0.here hx rfl (hb hby d1_18) rfl k) ?_
  show own_Go _ _ _ _ (s₁.setTop (mkF m 20 #[.val (.ref ar), .val (.int (-2147483648 : Int32)), .val (.ref ar), .val (.int (3 : Int32)), .val (.int (0 : Int32)), .unset] [(.int (0 : Int32)), (.ref ar)]))
  obtain ⟨cl12, Ar12, -, Sz12, Nn12, Hs12, -⟩ := id V_ar
  have hin12 : ¬ ((0 : Int32) < 0 ∨ cl12.slots.size ≤ ((0 : Int32)).toNatClampNeg) := inb_of Sz12 ⟨(by decide : ¬ ((0 : Int32) < (0 : Int32))), (by decide : (0 : Int32) < (3 : Int32))⟩
  have hat12 : cl12.slots[((0 : Int32)).toNatClampNeg]? = some (.int v0) := Hs12.at hin12 rfl
  refine own_st (X0.iaload hx (j := (0 : Int32)) (v := (.int v0)) (by rw [e0]; exact Ar12.1) (State.isArrayOf_alike hZ.alike Ar12.2.1) Ar12.2.2 hin12 hat12 (g := (mkF m 20 #[.val (.ref ar), .val (.int (-2147483648 : Int32)), .val (.ref ar), .val (.int (3 : Int32)), .val (.int (0 : Int32)), .unset] [(.int (0 : Int32)), (.ref ar)])) rfl rfl (hb hby d1_20)) ?_
  show own_Go _ _ _ _ (s₁.setTop (mkF m 21 #[.val (.ref ar), .val (.int (-2147483648 : Int32)), .val (.ref ar), .val (.int (3 : Int32)), .val (.int (0 : Int32)), .unset] [(.int v0)]))
  refine own_st (fun _ k => XS.istore X0.here hx rfl (hb hby d1_21) rfl (l' := #[.val (.ref ar), .val (.int (-2147483648 : Int32)), .val (.ref ar), .val (.int (3 : Int32)), .val (.int (0 : Int32)), .val (.int v0)]) rfl k) ?_
  show own_Go _ _ _ _ (s₁.setTop (mkF m 23 #[.val (.ref ar), .val (.int (-2147483648 : Int32)), .val (.ref ar), .val (.int (3 : Int32)), .val (.int (0 : Int32)), .val (.int v0)] []))
  refine own_st (fun _ k => XS.iloadN X0.here hx rfl (hb hby d1_23) rfl k) ?_
  show own_Go _ _ _ _ (s₁.setTop (mkF m 24 #[.val (.ref ar), .val (.int (-2147483648 : Int32)), .val (.ref ar), .val (.int (3 : Int32)), .val (.int (0 : Int32)), .val (.int v0)] [(.int (-2147483648 : Int32))]))
  refine own_st (fun _ k => XS.iload X0.here hx rfl (hb hby d1_24) rfl k) ?_
  show own_Go _ _ _ _ (s₁.setTop (mkF m 26 #[.val (.ref ar), .val (.int (-2147483648 : Int32)), .val (.ref ar), .val (.int (3 : Int32)), .val (.int (0 : Int32)), .val (.int v0)] [(.int v0), (.int (-2147483648 : Int32))]))
  obtain ⟨_, _, ⟨T13, L13, k13, n13⟩, -, X13, ⟨Lc13, hQ13, l13, y13, z13⟩, st13⟩ := Jvm.LawKit.callS X0 hx (y := (⟨"java/lang/Math", "max", "(II)I"⟩ : MethodName)) hown (mvT hZ (hw _ (List.mem_of_getElem? (i := 7) rfl))) (mvT hZ (hw _ (List.mem_of_getElem? (i := 8) rfl))) (mvT hZ (hw _ (List.mem_of_getElem? (i := 9) rfl))) (mvT hZ (hw _ (List.mem_of_getElem? (i := 10) rfl))) (by decide) (backOf (W := 0) (rm2 l Z a0 hw [] (-2147483648 : Int32) v0 h0 n0 Z0 ) hZ (hw _ (List.mem_of_getElem? (i := 10) rfl)) (hw _ (List.mem_of_getElem? (i := 9) rfl)) (by decide) (by decide)) (g := (mkF m 26 #[.val (.ref ar), .val (.int (-2147483648 : Int32)), .val (.ref ar), .val (.int (3 : Int32)), .val (.int (0 : Int32)), .val (.int v0)] [(.int v0), (.int (-2147483648 : Int32))])) rfl (by rw [hml]; rfl) (argsL := [(.int (-2147483648 : Int32)), (.int v0)]) (rest := []) (lenOf own_pd0 rfl) rfl (by show 2 * 0 + _ ≤ _; exact Nat.le_of_eq rfl) (hb hby d1_26) (fun _ _ => ⟨rfl, e0, (by decide : 0 + 0 ≤ _), (by decide : 0 + 0 ≤ _)⟩)
  dsimp only [Pt.U, Pt.locs, Pt.cells, Pt.slots] at X13 l13 y13 z13 st13 hQ13
  subst l13 y13 z13
  obtain ⟨rfl, Nq13, eq13⟩ := hQ13
  have N13 := Fr.app N0 Nq13
  refine own_st st13 ?_
  show own_Go _ _ _ _ (T13.setTop (mkF m 29 #[.val (.ref ar), .val (.int (-2147483648 : Int32)), .val (.ref ar), .val (.int (3 : Int32)), .val (.int (0 : Int32)), .val (.int v0)] [(.int (own_mx (-2147483648 : Int32) v0))]))
  refine own_st (fun _ k => XS.istoreN X13.here hx rfl (hb hby d1_29) rfl (l' := #[.val (.ref ar), .val (.int (own_mx (-2147483648 : Int32) v0)), .val (.ref ar), .val (.int (3 : Int32)), .val (.int (0 : Int32)), .val (.int v0)]) rfl k) ?_
  show own_Go _ _ _ _ (T13.setTop (mkF m 30 #[.val (.ref ar), .val (.int (own_mx (-2147483648 : Int32) v0)), .val (.ref ar), .val (.int (3 : Int32)), .val (.int (0 : Int32)), .val (.int v0)] []))
  refine own_st (fun _ k => XS.iinc X13.here hx rfl (hb hby d1_30) rfl (l' := #[.val (.ref ar), .val (.int (own_mx (-2147483648 : Int32) v0)), .val (.ref ar), .val (.int (3 : Int32)), .val (.int (1 : Int32)), .val (.int v0)]) rfl k) ?_
  show own_Go _ _ _ _ (T13.setTop (mkF m 33 #[.val (.ref ar), .val (.int (own_mx (-2147483648 : Int32) v0)), .val (.ref ar), .val (.int (3 : Int32)), .val (.int (1 : Int32)), .val (.int v0)] []))
  refine own_st (fun _ k => XS.goto X13.here hx rfl (pc0 := 33) (pc' := 11) rfl (hb hby d1_33) (by decide) (by decide) k) ?_
  show own_Go _ _ _ _ (T13.setTop (mkF m 11 #[.val (.ref ar), .val (.int (own_mx (-2147483648 : Int32) v0)), .val (.ref ar), .val (.int (3 : Int32)), .val (.int (1 : Int32)), .val (.int v0)] []))
  refine own_st (fun _ k => XS.iload X13.here hx rfl (hb hby d1_11) rfl k) ?_
  show own_Go _ _ _ _ (T13.setTop (mkF m 13 #[.val (.ref ar), .val (.int (own_mx (-2147483648 : Int32) v0)), .val (.ref ar), .val (.int (3 : Int32)), .val (.int (1 : Int32)), .val (.int v0)] [(.int (1 : Int32))]))
  refine own_st (fun _ k => XS.iloadN X13.here hx rfl (hb hby d1_13) rfl k) ?_
  show own_Go _ _ _ _ (T13.setTop (mkF m 14 #[.val (.ref ar), .val (.int (own_mx (-2147483648 : Int32) v0)), .val (.ref ar), .val (.int (3 : Int32)), .val (.int (1 : Int32)), .val (.int v0)] [(.int (3 : Int32)), (.int (1 : Int32))]))
  refine own_st (fun _ k => XS.icmpNo X13.here hx rfl (hb hby d1_14) rfl (tlt (by decide : ((1 : Int32) < (3 : Int32)))).2.1 k) ?_
  show own_Go _ _ _ _ (T13.setTop (mkF m 17 #[.val (.ref ar), .val (.int (own_mx (-2147483648 : Int32) v0)), .val (.ref ar), .val (.int (3 : Int32)), .val (.int (1 : Int32)), .val (.int v0)] []))
  refine own_st (fun _ k => XS.aloadN X13.here hx rfl (hb hby d1_17) rfl rfl k) ?_
  show own_Go _ _ _ _ (T13.setTop (mkF m 18 #[.val (.ref ar), .val (.int (own_mx (-2147483648 : Int32) v0)), .val (.ref ar), .val (.int (3 : Int32)), .val (.int (1 : Int32)), .val (.int v0)] [(.ref ar)]))
  refine own_st (fun _ k => XS.iload X13.here hx rfl (hb hby d1_18) rfl k) ?_
  show own_Go _ _ _ _ (T13.setTop (mkF m 20 #[.val (.ref ar), .val (.int (own_mx (-2147483648 : Int32) v0)), .val (.ref ar), .val (.int (3 : Int32)), .val (.int (1 : Int32)), .val (.int v0)] [(.int (1 : Int32)), (.ref ar)]))
  obtain ⟨cl14, Ar14, -, Sz14, Nn14, Hs14, -⟩ := id V_ar
  have hin14 : ¬ ((1 : Int32) < 0 ∨ cl14.slots.size ≤ ((1 : Int32)).toNatClampNeg) := inb_of Sz14 ⟨(by decide : ¬ ((1 : Int32) < (0 : Int32))), (by decide : (1 : Int32) < (3 : Int32))⟩
  have hat14 : cl14.slots[((1 : Int32)).toNatClampNeg]? = some (.int v1) := Hs14.at hin14 rfl
  refine own_st (X13.iaload hx (j := (1 : Int32)) (v := (.int v1)) (by rw [eq13]; exact Ar14.1) (State.isArrayOf_alike hZ.alike Ar14.2.1) Ar14.2.2 hin14 hat14 (g := (mkF m 20 #[.val (.ref ar), .val (.int (own_mx (-2147483648 : Int32) v0)), .val (.ref ar), .val (.int (3 : Int32)), .val (.int (1 : Int32)), .val (.int v0)] [(.int (1 : Int32)), (.ref ar)])) rfl rfl (hb hby d1_20)) ?_
  show own_Go _ _ _ _ (T13.setTop (mkF m 21 #[.val (.ref ar), .val (.int (own_mx (-2147483648 : Int32) v0)), .val (.ref ar), .val (.int (3 : Int32)), .val (.int (1 : Int32)), .val (.int v0)] [(.int v1)]))
  refine own_st (fun _ k => XS.istore X13.here hx rfl (hb hby d1_21) rfl (l' := #[.val (.ref ar), .val (.int (own_mx (-2147483648 : Int32) v0)), .val (.ref ar), .val (.int (3 : Int32)), .val (.int (1 : Int32)), .val (.int v1)]) rfl k) ?_
  show own_Go _ _ _ _ (T13.setTop (mkF m 23 #[.val (.ref ar), .val (.int (own_mx (-2147483648 : Int32) v0)), .val (.ref ar), .val (.int (3 : Int32)), .val (.int (1 : Int32)), .val (.int v1)] []))
  refine own_st (fun _ k => XS.iloadN X13.here hx rfl (hb hby d1_23) rfl k) ?_
  show own_Go _ _ _ _ (T13.setTop (mkF m 24 #[.val (.ref ar), .val (.int (own_mx (-2147483648 : Int32) v0)), .val (.ref ar), .val (.int (3 : Int32)), .val (.int (1 : Int32)), .val (.int v1)] [(.int (own_mx (-2147483648 : Int32) v0))]))
  refine own_st (fun _ k => XS.iload X13.here hx rfl (hb hby d1_24) rfl k) ?_
  show own_Go _ _ _ _ (T13.setTop (mkF m 26 #[.val (.ref ar), .val (.int (own_mx (-2147483648 : Int32) v0)), .val (.ref ar), .val (.int (3 : Int32)), .val (.int (1 : Int32)), .val (.int v1)] [(.int v1), (.int (own_mx (-2147483648 : Int32) v0))]))
  obtain ⟨_, _, ⟨T15, L15, k15, n15⟩, -, X15, ⟨Lc15, hQ15, l15, y15, z15⟩, st15⟩ := Jvm.LawKit.callS X13 hx (y := (⟨"java/lang/Math", "max", "(II)I"⟩ : MethodName)) hown (mvT hZ (hw _ (List.mem_of_getElem? (i := 7) rfl))) (mvT hZ (hw _ (List.mem_of_getElem? (i := 8) rfl))) (mvT hZ (hw _ (List.mem_of_getElem? (i := 9) rfl))) (mvT hZ (hw _ (List.mem_of_getElem? (i := 10) rfl))) (by decide) (backOf (W := 0) (rm2 l Z a0 hw [] (own_mx (-2147483648 : Int32) v0) v1 h0 n0 Z0 ) hZ (hw _ (List.mem_of_getElem? (i := 10) rfl)) (hw _ (List.mem_of_getElem? (i := 9) rfl)) (by decide) (by decide)) (g := (mkF m 26 #[.val (.ref ar), .val (.int (own_mx (-2147483648 : Int32) v0)), .val (.ref ar), .val (.int (3 : Int32)), .val (.int (1 : Int32)), .val (.int v1)] [(.int v1), (.int (own_mx (-2147483648 : Int32) v0))])) rfl (by rw [hml]; rfl) (argsL := [(.int (own_mx (-2147483648 : Int32) v0)), (.int v1)]) (rest := []) (lenOf own_pd0 rfl) rfl (by show 2 * 0 + _ ≤ _; exact Nat.le_of_eq rfl) (hb hby d1_26) (fun _ _ => ⟨rfl, eq13, (by decide : 0 + 0 ≤ _), (by decide : 0 + 0 ≤ _)⟩)
  dsimp only [Pt.U, Pt.locs, Pt.cells, Pt.slots] at X15 l15 y15 z15 st15 hQ15
  subst l15 y15 z15
  obtain ⟨rfl, Nq15, eq15⟩ := hQ15
  have N15 := Fr.app N13 Nq15
  refine own_st st15 ?_
  show own_Go _ _ _ _ (T15.setTop (mkF m 29 #[.val (.ref ar), .val (.int (own_mx (-2147483648 : Int32) v0)), .val (.ref ar), .val (.int (3 : Int32)), .val (.int (1 : Int32)), .val (.int v1)] [(.int (own_mx (own_mx (-2147483648 : Int32) v0) v1))]))
  refine own_st (fun _ k => XS.istoreN X15.here hx rfl (hb hby d1_29) rfl (l' := #[.val (.ref ar), .val (.int (own_mx (own_mx (-2147483648 : Int32) v0) v1)), .val (.ref ar), .val (.int (3 : Int32)), .val (.int (1 : Int32)), .val (.int v1)]) rfl k) ?_
  show own_Go _ _ _ _ (T15.setTop (mkF m 30 #[.val (.ref ar), .val (.int (own_mx (own_mx (-2147483648 : Int32) v0) v1)), .val (.ref ar), .val (.int (3 : Int32)), .val (.int (1 : Int32)), .val (.int v1)] []))
  refine own_st (fun _ k => XS.iinc X15.here hx rfl (hb hby d1_30) rfl (l' := #[.val (.ref ar), .val (.int (own_mx (own_mx (-2147483648 : Int32) v0) v1)), .val (.ref ar), .val (.int (3 : Int32)), .val (.int (2 : Int32)), .val (.int v1)]) rfl k) ?_
  show own_Go _ _ _ _ (T15.setTop (mkF m 33 #[.val (.ref ar), .val (.int (own_mx (own_mx (-2147483648 : Int32) v0) v1)), .val (.ref ar), .val (.int (3 : Int32)), .val (.int (2 : Int32)), .val (.int v1)] []))
  refine own_st (fun _ k => XS.goto X15.here hx rfl (pc0 := 33) (pc' := 11) rfl (hb hby d1_33) (by decide) (by decide) k) ?_
  show own_Go _ _ _ _ (T15.setTop (mkF m 11 #[.val (.ref ar), .val (.int (own_mx (own_mx (-2147483648 : Int32) v0) v1)), .val (.ref ar), .val (.int (3 : Int32)), .val (.int (2 : Int32)), .val (.int v1)] []))
  refine own_st (fun _ k => XS.iload X15.here hx rfl (hb hby d1_11) rfl k) ?_
  show own_Go _ _ _ _ (T15.setTop (mkF m 13 #[.val (.ref ar), .val (.int (own_mx (own_mx (-2147483648 : Int32) v0) v1)), .val (.ref ar), .val (.int (3 : Int32)), .val (.int (2 : Int32)), .val (.int v1)] [(.int (2 : Int32))]))
  refine own_st (fun _ k => XS.iloadN X15.here hx rfl (hb hby d1_13) rfl k) ?_
  show own_Go _ _ _ _ (T15.setTop (mkF m 14 #[.val (.ref ar), .val (.int (own_mx (own_mx (-2147483648 : Int32) v0) v1)), .val (.ref ar), .val (.int (3 : Int32)), .val (.int (2 : Int32)), .val (.int v1)] [(.int (3 : Int32)), (.int (2 : Int32))]))
  refine own_st (fun _ k => XS.icmpNo X15.here hx rfl (hb hby d1_14) rfl (tlt (by decide : ((2 : Int32) < (3 : Int32)))).2.1 k) ?_
  show own_Go _ _ _ _ (T15.setTop (mkF m 17 #[.val (.ref ar), .val (.int (own_mx (own_mx (-2147483648 : Int32) v0) v1)), .val (.ref ar), .val (.int (3 : Int32)), .val (.int (2 : Int32)), .val (.int v1)] []))
  refine own_st (fun _ k => XS.aloadN X15.here hx rfl (hb hby d1_17) rfl rfl k) ?_
  show own_Go _ _ _ _ (T15.setTop (mkF m 18 #[.val (.ref ar), .val (.int (own_mx (own_mx (-2147483648 : Int32) v0) v1)), .val (.ref ar), .val (.int (3 : Int32)), .val (.int (2 : Int32)), .val (.int v1)] [(.ref ar)]))
  refine own_st (fun _ k => XS.iload X15.here hx rfl (hb hby d1_18) rfl k) ?_
  show own_Go _ _ _ _ (T15.setTop (mkF m 20 #[.val (.ref ar), .val (.int (own_mx (own_mx (-2147483648 : Int32) v0) v1)), .val (.ref ar), .val (.int (3 : Int32)), .val (.int (2 : Int32)), .val (.int v1)] [(.int (2 : Int32)), (.ref ar)]))
  obtain ⟨cl16, Ar16, -, Sz16, Nn16, Hs16, -⟩ := id V_ar
  have hin16 : ¬ ((2 : Int32) < 0 ∨ cl16.slots.size ≤ ((2 : Int32)).toNatClampNeg) := inb_of Sz16 ⟨(by decide : ¬ ((2 : Int32) < (0 : Int32))), (by decide : (2 : Int32) < (3 : Int32))⟩
  have hat16 : cl16.slots[((2 : Int32)).toNatClampNeg]? = some (.int v2) := Hs16.at hin16 rfl
  refine own_st (X15.iaload hx (j := (2 : Int32)) (v := (.int v2)) (by rw [eq15]; exact Ar16.1) (State.isArrayOf_alike hZ.alike Ar16.2.1) Ar16.2.2 hin16 hat16 (g := (mkF m 20 #[.val (.ref ar), .val (.int (own_mx (own_mx (-2147483648 : Int32) v0) v1)), .val (.ref ar), .val (.int (3 : Int32)), .val (.int (2 : Int32)), .val (.int v1)] [(.int (2 : Int32)), (.ref ar)])) rfl rfl (hb hby d1_20)) ?_
  show own_Go _ _ _ _ (T15.setTop (mkF m 21 #[.val (.ref ar), .val (.int (own_mx (own_mx (-2147483648 : Int32) v0) v1)), .val (.ref ar), .val (.int (3 : Int32)), .val (.int (2 : Int32)), .val (.int v1)] [(.int v2)]))
  refine own_st (fun _ k => XS.istore X15.here hx rfl (hb hby d1_21) rfl (l' := #[.val (.ref ar), .val (.int (own_mx (own_mx (-2147483648 : Int32) v0) v1)), .val (.ref ar), .val (.int (3 : Int32)), .val (.int (2 : Int32)), .val (.int v2)]) rfl k) ?_
  show own_Go _ _ _ _ (T15.setTop (mkF m 23 #[.val (.ref ar), .val (.int (own_mx (own_mx (-2147483648 : Int32) v0) v1)), .val (.ref ar), .val (.int (3 : Int32)), .val (.int (2 : Int32)), .val (.int v2)] []))
  refine own_st (fun _ k => XS.iloadN X15.here hx rfl (hb hby d1_23) rfl k) ?_
  show own_Go _ _ _ _ (T15.setTop (mkF m 24 #[.val (.ref ar), .val (.int (own_mx (own_mx (-2147483648 : Int32) v0) v1)), .val (.ref ar), .val (.int (3 : Int32)), .val (.int (2 : Int32)), .val (.int v2)] [(.int (own_mx (own_mx (-2147483648 : Int32) v0) v1))]))
  refine own_st (fun _ k => XS.iload X15.here hx rfl (hb hby d1_24) rfl k) ?_
  show own_Go _ _ _ _ (T15.setTop (mkF m 26 #[.val (.ref ar), .val (.int (own_mx (own_mx (-2147483648 : Int32) v0) v1)), .val (.ref ar), .val (.int (3 : Int32)), .val (.int (2 : Int32)), .val (.int v2)] [(.int v2), (.int (own_mx (own_mx (-2147483648 : Int32) v0) v1))]))
  obtain ⟨_, _, ⟨T17, L17, k17, n17⟩, -, X17, ⟨Lc17, hQ17, l17, y17, z17⟩, st17⟩ := Jvm.LawKit.callS X15 hx (y := (⟨"java/lang/Math", "max", "(II)I"⟩ : MethodName)) hown (mvT hZ (hw _ (List.mem_of_getElem? (i := 7) rfl))) (mvT hZ (hw _ (List.mem_of_getElem? (i := 8) rfl))) (mvT hZ (hw _ (List.mem_of_getElem? (i := 9) rfl))) (mvT hZ (hw _ (List.mem_of_getElem? (i := 10) rfl))) (by decide) (backOf (W := 0) (rm2 l Z a0 hw [] (own_mx (own_mx (-2147483648 : Int32) v0) v1) v2 h0 n0 Z0 ) hZ (hw _ (List.mem_of_getElem? (i := 10) rfl)) (hw _ (List.mem_of_getElem? (i := 9) rfl)) (by decide) (by decide)) (g := (mkF m 26 #[.val (.ref ar), .val (.int (own_mx (own_mx (-2147483648 : Int32) v0) v1)), .val (.ref ar), .val (.int (3 : Int32)), .val (.int (2 : Int32)), .val (.int v2)] [(.int v2), (.int (own_mx (own_mx (-2147483648 : Int32) v0) v1))])) rfl (by rw [hml]; rfl) (argsL := [(.int (own_mx (own_mx (-2147483648 : Int32) v0) v1)), (.int v2)]) (rest := []) (lenOf own_pd0 rfl) rfl (by show 2 * 0 + _ ≤ _; exact Nat.le_of_eq rfl) (hb hby d1_26) (fun _ _ => ⟨rfl, eq15, (by decide : 0 + 0 ≤ _), (by decide : 0 + 0 ≤ _)⟩)
  dsimp only [Pt.U, Pt.locs, Pt.cells, Pt.slots] at X17 l17 y17 z17 st17 hQ17
  subst l17 y17 z17
  obtain ⟨rfl, Nq17, eq17⟩ := hQ17
  have N17 := Fr.app N15 Nq17
  refine own_st st17 ?_
  show own_Go _ _ _ _ (T17.setTop (mkF m 29 #[.val (.ref ar), .val (.int (own_mx (own_mx (-2147483648 : Int32) v0) v1)), .val (.ref ar), .val (.int (3 : Int32)), .val (.int (2 : Int32)), .val (.int v2)] [(.int (own_mx (own_mx (own_mx (-2147483648 : Int32) v0) v1) v2))]))
  refine own_st (fun _ k => XS.istoreN X17.here hx rfl (hb hby d1_29) rfl (l' := #[.val (.ref ar), .val (.int (own_mx (own_mx (own_mx (-2147483648 : Int32) v0) v1) v2)), .val (.ref ar), .val (.int (3 : Int32)), .val (.int (2 : Int32)), .val (.int v2)]) rfl k) ?_
  show own_Go _ _ _ _ (T17.setTop (mkF m 30 #[.val (.ref ar), .val (.int (own_mx (own_mx (own_mx (-2147483648 : Int32) v0) v1) v2)), .val (.ref ar), .val (.int (3 : Int32)), .val (.int (2 : Int32)), .val (.int v2)] []))
  refine own_st (fun _ k => XS.iinc X17.here hx rfl (hb hby d1_30) rfl (l' := #[.val (.ref ar), .val (.int (own_mx (own_mx (own_mx (-2147483648 : Int32) v0) v1) v2)), .val (.ref ar), .val (.int (3 : Int32)), .val (.int (3 : Int32)), .val (.int v2)]) rfl k) ?_
  show own_Go _ _ _ _ (T17.setTop (mkF m 33 #[.val (.ref ar), .val (.int (own_mx (own_mx (own_mx (-2147483648 : Int32) v0) v1) v2)), .val (.ref ar), .val (.int (3 : Int32)), .val (.int (3 : Int32)), .val (.int v2)] []))
  refine own_st (fun _ k => XS.goto X17.here hx rfl (pc0 := 33) (pc' := 11) rfl (hb hby d1_33) (by decide) (by decide) k) ?_
  show own_Go _ _ _ _ (T17.setTop (mkF m 11 #[.val (.ref ar), .val (.int (own_mx (own_mx (own_mx (-2147483648 : Int32) v0) v1) v2)), .val (.ref ar), .val (.int (3 : Int32)), .val (.int (3 : Int32)), .val (.int v2)] []))
  refine own_st (fun _ k => XS.iload X17.here hx rfl (hb hby d1_11) rfl k) ?_
  show own_Go _ _ _ _ (T17.setTop (mkF m 13 #[.val (.ref ar), .val (.int (own_mx (own_mx (own_mx (-2147483648 : Int32) v0) v1) v2)), .val (.ref ar), .val (.int (3 : Int32)), .val (.int (3 : Int32)), .val (.int v2)] [(.int (3 : Int32))]))
  refine own_st (fun _ k => XS.iloadN X17.here hx rfl (hb hby d1_13) rfl k) ?_
  show own_Go _ _ _ _ (T17.setTop (mkF m 14 #[.val (.ref ar), .val (.int (own_mx (own_mx (own_mx (-2147483648 : Int32) v0) v1) v2)), .val (.ref ar), .val (.int (3 : Int32)), .val (.int (3 : Int32)), .val (.int v2)] [(.int (3 : Int32)), (.int (3 : Int32))]))
  refine own_st (fun _ k => XS.icmpYes X17.here hx rfl (pc0 := 14) (pc' := 36) rfl (hb hby d1_14) rfl (flt (by decide : ¬ ((3 : Int32) < (3 : Int32)))).2.1 (by decide) (by decide) k) ?_
  show own_Go _ _ _ _ (T17.setTop (mkF m 36 #[.val (.ref ar), .val (.int (own_mx (own_mx (own_mx (-2147483648 : Int32) v0) v1) v2)), .val (.ref ar), .val (.int (3 : Int32)), .val (.int (3 : Int32)), .val (.int v2)] []))
  refine own_st (fun _ k => XS.iloadN X17.here hx rfl (hb hby d1_36) rfl k) ?_
  show own_Go _ _ _ _ (T17.setTop (mkF m 37 #[.val (.ref ar), .val (.int (own_mx (own_mx (own_mx (-2147483648 : Int32) v0) v1) v2)), .val (.ref ar), .val (.int (3 : Int32)), .val (.int (3 : Int32)), .val (.int v2)] [(.int (own_mx (own_mx (own_mx (-2147483648 : Int32) v0) v1) v2))]))
  obtain ⟨fs, hr, hrun, hended, hW, hsame⟩ := X17.leave (v := some (.int (own_mx (own_mx (own_mx (-2147483648 : Int32) v0) v1) v2))) (fun h => by rw [Bd.returns] at h; cases h)
  refine own_out (own_retI X17 hx Bd.returns (hb hby d1_37) hr) ⟨hrun, hended, _, _, rfl, ?_, ⟨_, rfl⟩, hW, hsame.mono (by decide) (by decide)⟩
  show Q1_3 Z ar kk v0 v1 v2 h0 n0 _ T17.heap _
  have hv : own_la3 v0 v1 v2 = (own_mx (own_mx (own_mx (-2147483648 : Int32) v0) v1) v2) := rfl
  exact ⟨by rw [hv], N17, eq17⟩
theorem own_mxi (a b : Int32) : (own_mx a b).toInt = if a.toInt < b.toInt then b.toInt else a.toInt := by
  unfold own_mx
  simp only [Int32.lt_iff_toInt_lt]
  split <;> rfl
theorem own_pd2 : parseMethodDescriptor "(IIII)Z" = some ⟨[.int, .int, .int, .int], some .boolean⟩ := by decide +kernel
theorem own_pn1 : plainName "com/example/barred_owl/barredowl/RepresentationLargestPinLaw" = true := by first | (simp [plainName, overriddenIn]; done) | decide +kernel
def Q0 (Z : State) (u0 : Int32) (u1 : Int32) (u2 : Int32) (u3 : Int32) (h0 : Heap) (n0 : Nat) (v : Option Value) (h : Heap) (L : List Loc) : Prop := v = some (.int 1) ∧ Fr n0 L
theorem ef_0 (m : MethodId) (x0 : Int32) (x1 : Int32) (x2 : Int32) (x3 : Int32) : entryFrame m #[(.int x0), (.int x1), (.int x2), (.int x3)] maxLocals = mkF m 0 #[.val (.int x0), .val (.int x1), .val (.int x2), .val (.int x3), .unset, .unset, .unset] [] := by first | (simp [entryFrame, mkF, argsToLocals, Value.category, maxLocals]; done) | rfl
set_option maxRecDepth 65536 in
set_option maxHeartbeats 40000000 in
theorem rm0 (l : Launch) (Z : State) (a0 : Array Value) (hw : ∀ d ∈ tables_1, d.before a0 Z = true) (ws : List Jvm.Cond) (u0 : Int32) (u1 : Int32) (u2 : Int32) (u3 : Int32) (h0 : Heap) (n0 : Nat) (Z0 : n0 ≤ h0.size)  :
    MetFree l x (head1 (Jvm.Cond.code x code maxLocals ret :: ws) room_1) (fun a U => a = #[(.int u0), (.int u1), (.int u2), (.int u3)] ∧ Z.Warmed39 U.vm ∧ U.heap = h0) (fun _ _ _ _ _ => True) (fun _ U o U' => ∃ v L, o = .returned v ∧ Q0 Z u0 u1 u2 u3 h0 n0 v U'.heap L ∧ FrameEnd U o U' L 16 128) := by
  refine MetFree.of_bodySF (plainFor_of_name own_pn1) hisR ?_
  intro p e s m args below meth c s₁ Bd hml0 hP hK
  obtain ⟨rfl, hZ, hh⟩ := hP
  have hx := Bd.exec
  have hby := Bd.bytes
  have hml : c.maxLocals = 7 := hml0
  have hown : s.vm.findClass "com/example/barred_owl/barredowl/RepresentationLargestPinLaw" = some m.cls := findClass_of_methodNamed Bd.named
  have hnm := (name_of_methodNamed Bd.named Bd.method).1
  have X0 : Stand p l e room_1 s m #[(.int u0), (.int u1), (.int u2), (.int u3)] below meth c s₁ [] 0 0 := Stand.of_body Bd
  have e0 : s₁.heap = h0 := by rw [← hh, Bd.state]; rfl
  have N0 := Fr.nil n0
  refine own_in ?_
  refine own_st (fun _ k => castTop (ef_0 m u0 u1 u2 u3) k) ?_
  have K0 : Keep h0 h0 [] := Keep.refl h0 []
  show own_Go _ _ _ _ (s₁.setTop (mkF m 0 #[.val (.int u0), .val (.int u1), .val (.int u2), .val (.int u3), .unset, .unset, .unset] []))
  refine own_st (fun _ k => XS.iloadN X0.here hx rfl (hb hby at_0) rfl k) ?_
  show own_Go _ _ _ _ (s₁.setTop (mkF m 1 #[.val (.int u0), .val (.int u1), .val (.int u2), .val (.int u3), .unset, .unset, .unset] [(.int u0)]))
  refine own_st (fun _ k => XS.iconst X0.here hx rfl (hb hby at_1) k) ?_
  show own_Go _ _ _ _ (s₁.setTop (mkF m 2 #[.val (.int u0), .val (.int u1), .val (.int u2), .val (.int u3), .unset, .unset, .unset] [(.int (3 : Int32)), (.int u0)]))
  refine own_st (fun _ k => XS.iand X0.here hx rfl (hb hby at_2) rfl k) ?_
  show own_Go _ _ _ _ (s₁.setTop (mkF m 3 #[.val (.int u0), .val (.int u1), .val (.int u2), .val (.int u3), .unset, .unset, .unset] [(.int (u0 &&& (3 : Int32)))]))
  refine own_st (fun _ k => XS.istore X0.here hx rfl (hb hby at_3) rfl (l' := #[.val (.int u0), .val (.int u1), .val (.int u2), .val (.int u3), .val (.int (u0 &&& (3 : Int32))), .unset, .unset]) rfl k) ?_
  show own_Go _ _ _ _ (s₁.setTop (mkF m 5 #[.val (.int u0), .val (.int u1), .val (.int u2), .val (.int u3), .val (.int (u0 &&& (3 : Int32))), .unset, .unset] []))
  rcases own_m4 u0 with hs18 | hs18 | hs18 | hs18
  · skip
    rw [hs18]
    show own_Go _ _ _ _ (s₁.setTop (mkF m 5 #[.val (.int u0), .val (.int u1), .val (.int u2), .val (.int u3), .val (.int (0 : Int32)), .unset, .unset] []))
    refine own_st (fun _ k => XS.iload X0.here hx rfl (hb hby at_5) rfl k) ?_
    show own_Go _ _ _ _ (s₁.setTop (mkF m 7 #[.val (.int u0), .val (.int u1), .val (.int u2), .val (.int u3), .val (.int (0 : Int32)), .unset, .unset] [(.int (0 : Int32))]))
    refine own_st (fun _ k => XS.ifNo X0.here hx rfl (hb hby at_7) rfl ((if0 _ _).trans (teq (by decide : ((0 : Int32) = (0 : Int32)))).2) k) ?_
    show own_Go _ _ _ _ (s₁.setTop (mkF m 10 #[.val (.int u0), .val (.int u1), .val (.int u2), .val (.int u3), .val (.int (0 : Int32)), .unset, .unset] []))
    refine own_st (fun _ k => XS.iconst X0.here hx rfl (hb hby at_10) k) ?_
    show own_Go _ _ _ _ (s₁.setTop (mkF m 11 #[.val (.int u0), .val (.int u1), .val (.int u2), .val (.int u3), .val (.int (0 : Int32)), .unset, .unset] [(.int (0 : Int32))]))
    obtain ⟨T19, h19, k19, X19, e19, E19, A19, st19⟩ := newP X0 hx hZ (hw _ (List.mem_of_getElem? (i := 0) rfl)) e0 (g := (mkF m 11 #[.val (.int u0), .val (.int u1), .val (.int u2), .val (.int u3), .val (.int (0 : Int32)), .unset, .unset] [(.int (0 : Int32))])) rfl (hb hby at_11) rfl (by decide : ¬ ((0 : Int32) < (0 : Int32))) (cap := 0) (by decide : ((0 : Int32)).toNatClampNeg ≤ 0) (by decide) (by decide) (by decide)
    obtain ⟨b19, g19⟩ : ∃ z, z = h0.size := ⟨_, rfl⟩
    rw [← g19] at A19 st19
    refine own_st st19 ?_
    have Z19 : n0 ≤ h19.size := Nat.le_trans Z0 E19.1
    have gnb19 : n0 ≤ b19 := Nat.le_trans Z0 (Nat.le_of_eq g19.symm)
    have gkb19 : h0.size ≤ b19 := Nat.le_trans K0.1 (Nat.le_of_eq g19.symm)
    have K19 : Keep h0 h19 [] := K0.ext E19
    have V19 : Arv Z h19 b19 k19 .int (0 : Int32) [] (.int (0 : Int32)) := Arv.new A19 (by decide : ¬ ((0 : Int32) < (0 : Int32)))
    show own_Go _ _ _ _ (T19.setTop (mkF m 13 #[.val (.int u0), .val (.int u1), .val (.int u2), .val (.int u3), .val (.int (0 : Int32)), .unset, .unset] [(.ref b19)]))
    refine own_st (fun _ k => XS.astore X19.here hx rfl (hb hby at_13) rfl rfl (l' := #[.val (.int u0), .val (.int u1), .val (.int u2), .val (.int u3), .val (.int (0 : Int32)), .val (.ref b19), .unset]) rfl k) ?_
    show own_Go _ _ _ _ (T19.setTop (mkF m 15 #[.val (.int u0), .val (.int u1), .val (.int u2), .val (.int u3), .val (.int (0 : Int32)), .val (.ref b19), .unset] []))
    refine own_st (fun _ k => XS.goto X19.here hx rfl (pc0 := 15) (pc' := 75) rfl (hb hby at_15) (by decide) (by decide) k) ?_
    show own_Go _ _ _ _ (T19.setTop (mkF m 75 #[.val (.int u0), .val (.int u1), .val (.int u2), .val (.int u3), .val (.int (0 : Int32)), .val (.ref b19), .unset] []))
    refine own_st (fun _ k => XS.iload X19.here hx rfl (hb hby at_75) rfl k) ?_
    show own_Go _ _ _ _ (T19.setTop (mkF m 77 #[.val (.int u0), .val (.int u1), .val (.int u2), .val (.int u3), .val (.int (0 : Int32)), .val (.ref b19), .unset] [(.int (0 : Int32))]))
    refine own_st (fun _ k => XS.ifNo X19.here hx rfl (hb hby at_77) rfl ((if0 _ _).trans (teq (by decide : ((0 : Int32) = (0 : Int32)))).2) k) ?_
    show own_Go _ _ _ _ (T19.setTop (mkF m 80 #[.val (.int u0), .val (.int u1), .val (.int u2), .val (.int u3), .val (.int (0 : Int32)), .val (.ref b19), .unset] []))
    refine own_st (fun _ k => X19.ldcInt hx hown (mvT hZ (hw _ (List.mem_of_getElem? (i := 1) rfl))) (g := (mkF m 80 #[.val (.int u0), .val (.int u1), .val (.int u2), .val (.int u3), .val (.int (0 : Int32)), .val (.ref b19), .unset] [])) rfl (hb hby at_80) _ k) ?_
    show own_Go _ _ _ _ (T19.setTop (mkF m 82 #[.val (.int u0), .val (.int u1), .val (.int u2), .val (.int u3), .val (.int (0 : Int32)), .val (.ref b19), .unset] [(.int (-2147483648 : Int32))]))
    refine own_st (fun _ k => XS.istore X19.here hx rfl (hb hby at_82) rfl (l' := #[.val (.int u0), .val (.int u1), .val (.int u2), .val (.int u3), .val (.int (0 : Int32)), .val (.ref b19), .val (.int (-2147483648 : Int32))]) rfl k) ?_
    show own_Go _ _ _ _ (T19.setTop (mkF m 84 #[.val (.int u0), .val (.int u1), .val (.int u2), .val (.int u3), .val (.int (0 : Int32)), .val (.ref b19), .val (.int (-2147483648 : Int32))] []))
    refine own_st (fun _ k => XS.goto X19.here hx rfl (pc0 := 84) (pc' := 120) rfl (hb hby at_84) (by decide) (by decide) k) ?_
    show own_Go _ _ _ _ (T19.setTop (mkF m 120 #[.val (.int u0), .val (.int u1), .val (.int u2), .val (.int u3), .val (.int (0 : Int32)), .val (.ref b19), .val (.int (-2147483648 : Int32))] []))
    refine own_st (fun _ k => XS.aload X19.here hx rfl (hb hby at_120) rfl rfl k) ?_
    show own_Go _ _ _ _ (T19.setTop (mkF m 122 #[.val (.int u0), .val (.int u1), .val (.int u2), .val (.int u3), .val (.int (0 : Int32)), .val (.ref b19), .val (.int (-2147483648 : Int32))] [(.ref b19)]))
    obtain ⟨_, _, ⟨T20, L20, k20, n20⟩, -, X20, ⟨Lc20, hQ20, l20, y20, z20⟩, st20⟩ := Jvm.LawKit.callS X19 hx (y := (⟨"com/example/barred_owl/barredowl/Representation", "largest", "([I)I"⟩ : MethodName)) hown (mvT hZ (hw _ (List.mem_of_getElem? (i := 2) rfl))) (mvT hZ (hw _ (List.mem_of_getElem? (i := 3) rfl))) (mvT hZ (hw _ (List.mem_of_getElem? (i := 4) rfl))) (mvT hZ (hw _ (List.mem_of_getElem? (i := 5) rfl))) (by decide) (backOf (W := 0) (rm1_0 l Z a0 hw [] b19 k19  h19 n0 Z19 V19) hZ (hw _ (List.mem_of_getElem? (i := 5) rfl)) (hw _ (List.mem_of_getElem? (i := 4) rfl)) (by decide) (by decide)) (g := (mkF m 122 #[.val (.int u0), .val (.int u1), .val (.int u2), .val (.int u3), .val (.int (0 : Int32)), .val (.ref b19), .val (.int (-2147483648 : Int32))] [(.ref b19)])) rfl (by rw [hml]; rfl) (argsL := [(.ref b19)]) (rest := []) (lenOf own_pd1 rfl) rfl (by show 2 * 0 + _ ≤ _; exact Nat.le_of_eq rfl) (hb hby at_122) (fun _ _ => ⟨rfl, e19, (by decide : 1 + 0 ≤ _), (by decide : 0 + 0 ≤ _)⟩)
    dsimp only [Pt.U, Pt.locs, Pt.cells, Pt.slots] at X20 l20 y20 z20 st20 hQ20
    subst l20 y20 z20
    obtain ⟨rfl, Nq20, eq20⟩ := hQ20
    have N20 := Fr.app N0 Nq20
    refine own_st st20 ?_
    show own_Go _ _ _ _ (T20.setTop (mkF m 125 #[.val (.int u0), .val (.int u1), .val (.int u2), .val (.int u3), .val (.int (0 : Int32)), .val (.ref b19), .val (.int (-2147483648 : Int32))] [(.int own_la0)]))
    refine own_st (fun _ k => XS.iload X20.here hx rfl (hb hby at_125) rfl k) ?_
    show own_Go _ _ _ _ (T20.setTop (mkF m 127 #[.val (.int u0), .val (.int u1), .val (.int u2), .val (.int u3), .val (.int (0 : Int32)), .val (.ref b19), .val (.int (-2147483648 : Int32))] [(.int (-2147483648 : Int32)), (.int own_la0)]))
    refine own_st (fun _ k => XS.icmpNo X20.here hx rfl (hb hby at_127) rfl (teq (rfl)).2 k) ?_
    show own_Go _ _ _ _ (T20.setTop (mkF m 130 #[.val (.int u0), .val (.int u1), .val (.int u2), .val (.int u3), .val (.int (0 : Int32)), .val (.ref b19), .val (.int (-2147483648 : Int32))] []))
    refine own_st (fun _ k => XS.iconst X20.here hx rfl (hb hby at_130) k) ?_
    show own_Go _ _ _ _ (T20.setTop (mkF m 131 #[.val (.int u0), .val (.int u1), .val (.int u2), .val (.int u3), .val (.int (0 : Int32)), .val (.ref b19), .val (.int (-2147483648 : Int32))] [(.int (1 : Int32))]))
    refine own_st (fun _ k => XS.goto X20.here hx rfl (pc0 := 131) (pc' := 135) rfl (hb hby at_131) (by decide) (by decide) k) ?_
    show own_Go _ _ _ _ (T20.setTop (mkF m 135 #[.val (.int u0), .val (.int u1), .val (.int u2), .val (.int u3), .val (.int (0 : Int32)), .val (.ref b19), .val (.int (-2147483648 : Int32))] [(.int (1 : Int32))]))
    obtain ⟨fs, hr, hrun, hended, hW, hsame⟩ := X20.leave (v := some (.int (1 : Int32))) (fun h => by rw [Bd.returns] at h; cases h)
    refine own_out (retN X20 hx (t := .boolean) Bd.returns (by simp) (hb hby at_135) hr) ⟨hrun, hended, _, _, rfl, ?_, ⟨_, rfl⟩, hW, hsame.mono (by decide) (by decide)⟩
    show Q0 Z u0 u1 u2 u3 h0 n0 _ T20.heap _
    exact ⟨rfl, N20⟩
  · skip
    rw [hs18]
    show own_Go _ _ _ _ (s₁.setTop (mkF m 5 #[.val (.int u0), .val (.int u1), .val (.int u2), .val (.int u3), .val (.int (1 : Int32)), .unset, .unset] []))
    refine own_st (fun _ k => XS.iload X0.here hx rfl (hb hby at_5) rfl k) ?_
    show own_Go _ _ _ _ (s₁.setTop (mkF m 7 #[.val (.int u0), .val (.int u1), .val (.int u2), .val (.int u3), .val (.int (1 : Int32)), .unset, .unset] [(.int (1 : Int32))]))
    refine own_st (fun _ k => XS.ifYes X0.here hx rfl (pc0 := 7) (pc' := 18) rfl (hb hby at_7) rfl ((if0 _ _).trans (feq (by decide : ¬ ((1 : Int32) = (0 : Int32)))).2) (by decide) (by decide) k) ?_
    show own_Go _ _ _ _ (s₁.setTop (mkF m 18 #[.val (.int u0), .val (.int u1), .val (.int u2), .val (.int u3), .val (.int (1 : Int32)), .unset, .unset] []))
    refine own_st (fun _ k => XS.iload X0.here hx rfl (hb hby at_18) rfl k) ?_
    show own_Go _ _ _ _ (s₁.setTop (mkF m 20 #[.val (.int u0), .val (.int u1), .val (.int u2), .val (.int u3), .val (.int (1 : Int32)), .unset, .unset] [(.int (1 : Int32))]))
    refine own_st (fun _ k => XS.iconst X0.here hx rfl (hb hby at_20) k) ?_
    show own_Go _ _ _ _ (s₁.setTop (mkF m 21 #[.val (.int u0), .val (.int u1), .val (.int u2), .val (.int u3), .val (.int (1 : Int32)), .unset, .unset] [(.int (1 : Int32)), (.int (1 : Int32))]))
    refine own_st (fun _ k => XS.icmpNo X0.here hx rfl (hb hby at_21) rfl (teq (by decide : ((1 : Int32) = (1 : Int32)))).2 k) ?_
    show own_Go _ _ _ _ (s₁.setTop (mkF m 24 #[.val (.int u0), .val (.int u1), .val (.int u2), .val (.int u3), .val (.int (1 : Int32)), .unset, .unset] []))
    refine own_st (fun _ k => XS.iconst X0.here hx rfl (hb hby at_24) k) ?_
    show own_Go _ _ _ _ (s₁.setTop (mkF m 25 #[.val (.int u0), .val (.int u1), .val (.int u2), .val (.int u3), .val (.int (1 : Int32)), .unset, .unset] [(.int (1 : Int32))]))
    obtain ⟨T21, h21, k21, X21, e21, E21, A21, st21⟩ := newP X0 hx hZ (hw _ (List.mem_of_getElem? (i := 0) rfl)) e0 (g := (mkF m 25 #[.val (.int u0), .val (.int u1), .val (.int u2), .val (.int u3), .val (.int (1 : Int32)), .unset, .unset] [(.int (1 : Int32))])) rfl (hb hby at_25) rfl (by decide : ¬ ((1 : Int32) < (0 : Int32))) (cap := 1) (by decide : ((1 : Int32)).toNatClampNeg ≤ 1) (by decide) (by decide) (by decide)
    obtain ⟨b21, g21⟩ : ∃ z, z = h0.size := ⟨_, rfl⟩
    rw [← g21] at A21 st21
    refine own_st st21 ?_
    have Z21 : n0 ≤ h21.size := Nat.le_trans Z0 E21.1
    have gnb21 : n0 ≤ b21 := Nat.le_trans Z0 (Nat.le_of_eq g21.symm)
    have gkb21 : h0.size ≤ b21 := Nat.le_trans K0.1 (Nat.le_of_eq g21.symm)
    have K21 : Keep h0 h21 [] := K0.ext E21
    have V21 : Arv Z h21 b21 k21 .int (1 : Int32) [(.int (0 : Int32))] (.int (0 : Int32)) := (Arv.new A21 (by decide : ¬ ((1 : Int32) < (0 : Int32)))).pad (pad_rep [] (.int (0 : Int32)) 1)
    show own_Go _ _ _ _ (T21.setTop (mkF m 27 #[.val (.int u0), .val (.int u1), .val (.int u2), .val (.int u3), .val (.int (1 : Int32)), .unset, .unset] [(.ref b21)]))
    refine own_st (fun _ k => XS.dup X21.here hx rfl (hb hby at_27) rfl rfl k) ?_
    show own_Go _ _ _ _ (T21.setTop (mkF m 28 #[.val (.int u0), .val (.int u1), .val (.int u2), .val (.int u3), .val (.int (1 : Int32)), .unset, .unset] [(.ref b21), (.ref b21)]))
    refine own_st (fun _ k => XS.iconst X21.here hx rfl (hb hby at_28) k) ?_
    show own_Go _ _ _ _ (T21.setTop (mkF m 29 #[.val (.int u0), .val (.int u1), .val (.int u2), .val (.int u3), .val (.int (1 : Int32)), .unset, .unset] [(.int (0 : Int32)), (.ref b21), (.ref b21)]))
    refine own_st (fun _ k => XS.iloadN X21.here hx rfl (hb hby at_29) rfl k) ?_
    show own_Go _ _ _ _ (T21.setTop (mkF m 30 #[.val (.int u0), .val (.int u1), .val (.int u2), .val (.int u3), .val (.int (1 : Int32)), .unset, .unset] [(.int u1), (.int (0 : Int32)), (.ref b21), (.ref b21)]))
    obtain ⟨cl22, Ar22, Kd22, Sz22, Nn22, Hs22, Gs22⟩ := id V21
    obtain ⟨T22, h22, X22, e22, W22, st22⟩ := stI X21 hx hZ e21 Ar22 (j := (0 : Int32)) (inb_of Sz22 ⟨(by decide : ¬ ((0 : Int32) < (0 : Int32))), (by decide : (0 : Int32) < (1 : Int32))⟩) (g := (mkF m 30 #[.val (.int u0), .val (.int u1), .val (.int u2), .val (.int u3), .val (.int (1 : Int32)), .unset, .unset] [(.int u1), (.int (0 : Int32)), (.ref b21), (.ref b21)])) rfl rfl (hb hby at_30)
    refine own_st st22 ?_
    have V22 := Arv.set Ar22 Kd22 Sz22 Nn22 Hs22 Gs22 rfl W22 0 rfl (Nat.le_of_ble_eq_true rfl)
    have V22' : Arv Z h22 b21 k21 .int (1 : Int32) [(.int u1)] (.int (0 : Int32)) := V22
    have Z22 : n0 ≤ h22.size := Nat.le_trans Z21 (Nat.le_of_eq W22.size.symm)
    have N22 := Fr.snoc X22 N0 gnb21
    have K22 : Keep h0 h22 [] := K21.wr W22 (Or.inr gkb21)
    show own_Go _ _ _ _ (T22.setTop (mkF m 31 #[.val (.int u0), .val (.int u1), .val (.int u2), .val (.int u3), .val (.int (1 : Int32)), .unset, .unset] [(.ref b21)]))
    refine own_st (fun _ k => XS.astore X22.here hx rfl (hb hby at_31) rfl rfl (l' := #[.val (.int u0), .val (.int u1), .val (.int u2), .val (.int u3), .val (.int (1 : Int32)), .val (.ref b21), .unset]) rfl k) ?_
    show own_Go _ _ _ _ (T22.setTop (mkF m 33 #[.val (.int u0), .val (.int u1), .val (.int u2), .val (.int u3), .val (.int (1 : Int32)), .val (.ref b21), .unset] []))
    refine own_st (fun _ k => XS.goto X22.here hx rfl (pc0 := 33) (pc' := 75) rfl (hb hby at_33) (by decide) (by decide) k) ?_
    show own_Go _ _ _ _ (T22.setTop (mkF m 75 #[.val (.int u0), .val (.int u1), .val (.int u2), .val (.int u3), .val (.int (1 : Int32)), .val (.ref b21), .unset] []))
    refine own_st (fun _ k => XS.iload X22.here hx rfl (hb hby at_75) rfl k) ?_
    show own_Go _ _ _ _ (T22.setTop (mkF m 77 #[.val (.int u0), .val (.int u1), .val (.int u2), .val (.int u3), .val (.int (1 : Int32)), .val (.ref b21), .unset] [(.int (1 : Int32))]))
    refine own_st (fun _ k => XS.ifYes X22.here hx rfl (pc0 := 77) (pc' := 87) rfl (hb hby at_77) rfl ((if0 _ _).trans (feq (by decide : ¬ ((1 : Int32) = (0 : Int32)))).2) (by decide) (by decide) k) ?_
    show own_Go _ _ _ _ (T22.setTop (mkF m 87 #[.val (.int u0), .val (.int u1), .val (.int u2), .val (.int u3), .val (.int (1 : Int32)), .val (.ref b21), .unset] []))
    refine own_st (fun _ k => XS.iloadN X22.here hx rfl (hb hby at_87) rfl k) ?_
    show own_Go _ _ _ _ (T22.setTop (mkF m 88 #[.val (.int u0), .val (.int u1), .val (.int u2), .val (.int u3), .val (.int (1 : Int32)), .val (.ref b21), .unset] [(.int u1)]))
    refine own_st (fun _ k => XS.istore X22.here hx rfl (hb hby at_88) rfl (l' := #[.val (.int u0), .val (.int u1), .val (.int u2), .val (.int u3), .val (.int (1 : Int32)), .val (.ref b21), .val (.int u1)]) rfl k) ?_
    show own_Go _ _ _ _ (T22.setTop (mkF m 90 #[.val (.int u0), .val (.int u1), .val (.int u2), .val (.int u3), .val (.int (1 : Int32)), .val (.ref b21), .val (.int u1)] []))
    refine own_st (fun _ k => XS.iload X22.here hx rfl (hb hby at_90) rfl k) ?_
    show own_Go _ _ _ _ (T22.setTop (mkF m 92 #[.val (.int u0), .val (.int u1), .val (.int u2), .val (.int u3), .val (.int (1 : Int32)), .val (.ref b21), .val (.int u1)] [(.int (1 : Int32))]))
    refine own_st (fun _ k => XS.iconst X22.here hx rfl (hb hby at_92) k) ?_
    show own_Go _ _ _ _ (T22.setTop (mkF m 93 #[.val (.int u0), .val (.int u1), .val (.int u2), .val (.int u3), .val (.int (1 : Int32)), .val (.ref b21), .val (.int u1)] [(.int (2 : Int32)), (.int (1 : Int32))]))
    refine own_st (fun _ k => XS.icmpYes X22.here hx rfl (pc0 := 93) (pc' := 105) rfl (hb hby at_93) rfl (tlt (by decide : ((1 : Int32) < (2 : Int32)))).1 (by decide) (by decide) k) ?_
    show own_Go _ _ _ _ (T22.setTop (mkF m 105 #[.val (.int u0), .val (.int u1), .val (.int u2), .val (.int u3), .val (.int (1 : Int32)), .val (.ref b21), .val (.int u1)] []))
    refine own_st (fun _ k => XS.iload X22.here hx rfl (hb hby at_105) rfl k) ?_
    show own_Go _ _ _ _ (T22.setTop (mkF m 107 #[.val (.int u0), .val (.int u1), .val (.int u2), .val (.int u3), .val (.int (1 : Int32)), .val (.ref b21), .val (.int u1)] [(.int (1 : Int32))]))
    refine own_st (fun _ k => XS.iconst X22.here hx rfl (hb hby at_107) k) ?_
    show own_Go _ _ _ _ (T22.setTop (mkF m 108 #[.val (.int u0), .val (.int u1), .val (.int u2), .val (.int u3), .val (.int (1 : Int32)), .val (.ref b21), .val (.int u1)] [(.int (3 : Int32)), (.int (1 : Int32))]))
    refine own_st (fun _ k => XS.icmpYes X22.here hx rfl (pc0 := 108) (pc' := 120) rfl (hb hby at_108) rfl (tlt (by decide : ((1 : Int32) < (3 : Int32)))).1 (by decide) (by decide) k) ?_
    show own_Go _ _ _ _ (T22.setTop (mkF m 120 #[.val (.int u0), .val (.int u1), .val (.int u2), .val (.int u3), .val (.int (1 : Int32)), .val (.ref b21), .val (.int u1)] []))
    refine own_st (fun _ k => XS.aload X22.here hx rfl (hb hby at_120) rfl rfl k) ?_
    show own_Go _ _ _ _ (T22.setTop (mkF m 122 #[.val (.int u0), .val (.int u1), .val (.int u2), .val (.int u3), .val (.int (1 : Int32)), .val (.ref b21), .val (.int u1)] [(.ref b21)]))
    obtain ⟨_, _, ⟨T23, L23, k23, n23⟩, -, X23, ⟨Lc23, hQ23, l23, y23, z23⟩, st23⟩ := Jvm.LawKit.callS X22 hx (y := (⟨"com/example/barred_owl/barredowl/Representation", "largest", "([I)I"⟩ : MethodName)) hown (mvT hZ (hw _ (List.mem_of_getElem? (i := 2) rfl))) (mvT hZ (hw _ (List.mem_of_getElem? (i := 3) rfl))) (mvT hZ (hw _ (List.mem_of_getElem? (i := 4) rfl))) (mvT hZ (hw _ (List.mem_of_getElem? (i := 5) rfl))) (by decide) (backOf (W := 0) (rm1_1 l Z a0 hw [] b21 k21 u1 h22 n0 Z22 V22') hZ (hw _ (List.mem_of_getElem? (i := 5) rfl)) (hw _ (List.mem_of_getElem? (i := 4) rfl)) (by decide) (by decide)) (g := (mkF m 122 #[.val (.int u0), .val (.int u1), .val (.int u2), .val (.int u3), .val (.int (1 : Int32)), .val (.ref b21), .val (.int u1)] [(.ref b21)])) rfl (by rw [hml]; rfl) (argsL := [(.ref b21)]) (rest := []) (lenOf own_pd1 rfl) rfl (by show 2 * 0 + _ ≤ _; exact Nat.le_of_eq rfl) (hb hby at_122) (fun _ _ => ⟨rfl, e22, (by decide : 1 + 0 ≤ _), (by decide : 1 + 0 ≤ _)⟩)
    dsimp only [Pt.U, Pt.locs, Pt.cells, Pt.slots] at X23 l23 y23 z23 st23 hQ23
    subst l23 y23 z23
    obtain ⟨rfl, Nq23, eq23⟩ := hQ23
    have N23 := Fr.app N22 Nq23
    refine own_st st23 ?_
    show own_Go _ _ _ _ (T23.setTop (mkF m 125 #[.val (.int u0), .val (.int u1), .val (.int u2), .val (.int u3), .val (.int (1 : Int32)), .val (.ref b21), .val (.int u1)] [(.int (own_la1 u1))]))
    refine own_st (fun _ k => XS.iload X23.here hx rfl (hb hby at_125) rfl k) ?_
    show own_Go _ _ _ _ (T23.setTop (mkF m 127 #[.val (.int u0), .val (.int u1), .val (.int u2), .val (.int u3), .val (.int (1 : Int32)), .val (.ref b21), .val (.int u1)] [(.int u1), (.int (own_la1 u1))]))
    refine own_st (fun _ k => XS.icmpNo X23.here hx rfl (hb hby at_127) rfl (teq (by
        unfold own_la1
        simp only [← Int32.toInt_inj, Int32.lt_iff_toInt_lt, own_mxi, Int32.reduceToInt] at *
        have r1 := rng32 u1
        have r2 := rng32 u2
        have r3 := rng32 u3
        (repeat' split) <;> omega)).2 k) ?_
    show own_Go _ _ _ _ (T23.setTop (mkF m 130 #[.val (.int u0), .val (.int u1), .val (.int u2), .val (.int u3), .val (.int (1 : Int32)), .val (.ref b21), .val (.int u1)] []))
    refine own_st (fun _ k => XS.iconst X23.here hx rfl (hb hby at_130) k) ?_
    show own_Go _ _ _ _ (T23.setTop (mkF m 131 #[.val (.int u0), .val (.int u1), .val (.int u2), .val (.int u3), .val (.int (1 : Int32)), .val (.ref b21), .val (.int u1)] [(.int (1 : Int32))]))
    refine own_st (fun _ k => XS.goto X23.here hx rfl (pc0 := 131) (pc' := 135) rfl (hb hby at_131) (by decide) (by decide) k) ?_
    show own_Go _ _ _ _ (T23.setTop (mkF m 135 #[.val (.int u0), .val (.int u1), .val (.int u2), .val (.int u3), .val (.int (1 : Int32)), .val (.ref b21), .val (.int u1)] [(.int (1 : Int32))]))
    obtain ⟨fs, hr, hrun, hended, hW, hsame⟩ := X23.leave (v := some (.int (1 : Int32))) (fun h => by rw [Bd.returns] at h; cases h)
    refine own_out (retN X23 hx (t := .boolean) Bd.returns (by simp) (hb hby at_135) hr) ⟨hrun, hended, _, _, rfl, ?_, ⟨_, rfl⟩, hW, hsame.mono (by decide) (by decide)⟩
    show Q0 Z u0 u1 u2 u3 h0 n0 _ T23.heap _
    exact ⟨rfl, N23⟩
  · skip
    rw [hs18]
    show own_Go _ _ _ _ (s₁.setTop (mkF m 5 #[.val (.int u0), .val (.int u1), .val (.int u2), .val (.int u3), .val (.int (2 : Int32)), .unset, .unset] []))
    refine own_st (fun _ k => XS.iload X0.here hx rfl (hb hby at_5) rfl k) ?_
    show own_Go _ _ _ _ (s₁.setTop (mkF m 7 #[.val (.int u0), .val (.int u1), .val (.int u2), .val (.int u3), .val (.int (2 : Int32)), .unset, .unset] [(.int (2 : Int32))]))
    refine own_st (fun _ k => XS.ifYes X0.here hx rfl (pc0 := 7) (pc' := 18) rfl (hb hby at_7) rfl ((if0 _ _).trans (feq (by decide : ¬ ((2 : Int32) = (0 : Int32)))).2) (by decide) (by decide) k) ?_
    show own_Go _ _ _ _ (s₁.setTop (mkF m 18 #[.val (.int u0), .val (.int u1), .val (.int u2), .val (.int u3), .val (.int (2 : Int32)), .unset, .unset] []))
    refine own_st (fun _ k => XS.iload X0.here hx rfl (hb hby at_18) rfl k) ?_
    show own_Go _ _ _ _ (s₁.setTop (mkF m 20 #[.val (.int u0), .val (.int u1), .val (.int u2), .val (.int u3), .val (.int (2 : Int32)), .unset, .unset] [(.int (2 : Int32))]))
    refine own_st (fun _ k => XS.iconst X0.here hx rfl (hb hby at_20) k) ?_
    show own_Go _ _ _ _ (s₁.setTop (mkF m 21 #[.val (.int u0), .val (.int u1), .val (.int u2), .val (.int u3), .val (.int (2 : Int32)), .unset, .unset] [(.int (1 : Int32)), (.int (2 : Int32))]))
    refine own_st (fun _ k => XS.icmpYes X0.here hx rfl (pc0 := 21) (pc' := 36) rfl (hb hby at_21) rfl (feq (by decide : ¬ ((2 : Int32) = (1 : Int32)))).2 (by decide) (by decide) k) ?_
    show own_Go _ _ _ _ (s₁.setTop (mkF m 36 #[.val (.int u0), .val (.int u1), .val (.int u2), .val (.int u3), .val (.int (2 : Int32)), .unset, .unset] []))
    refine own_st (fun _ k => XS.iload X0.here hx rfl (hb hby at_36) rfl k) ?_
    show own_Go _ _ _ _ (s₁.setTop (mkF m 38 #[.val (.int u0), .val (.int u1), .val (.int u2), .val (.int u3), .val (.int (2 : Int32)), .unset, .unset] [(.int (2 : Int32))]))
    refine own_st (fun _ k => XS.iconst X0.here hx rfl (hb hby at_38) k) ?_
    show own_Go _ _ _ _ (s₁.setTop (mkF m 39 #[.val (.int u0), .val (.int u1), .val (.int u2), .val (.int u3), .val (.int (2 : Int32)), .unset, .unset] [(.int (2 : Int32)), (.int (2 : Int32))]))
    refine own_st (fun _ k => XS.icmpNo X0.here hx rfl (hb hby at_39) rfl (teq (by decide : ((2 : Int32) = (2 : Int32)))).2 k) ?_
    show own_Go _ _ _ _ (s₁.setTop (mkF m 42 #[.val (.int u0), .val (.int u1), .val (.int u2), .val (.int u3), .val (.int (2 : Int32)), .unset, .unset] []))
    refine own_st (fun _ k => XS.iconst X0.here hx rfl (hb hby at_42) k) ?_
    show own_Go _ _ _ _ (s₁.setTop (mkF m 43 #[.val (.int u0), .val (.int u1), .val (.int u2), .val (.int u3), .val (.int (2 : Int32)), .unset, .unset] [(.int (2 : Int32))]))
    obtain ⟨T24, h24, k24, X24, e24, E24, A24, st24⟩ := newP X0 hx hZ (hw _ (List.mem_of_getElem? (i := 0) rfl)) e0 (g := (mkF m 43 #[.val (.int u0), .val (.int u1), .val (.int u2), .val (.int u3), .val (.int (2 : Int32)), .unset, .unset] [(.int (2 : Int32))])) rfl (hb hby at_43) rfl (by decide : ¬ ((2 : Int32) < (0 : Int32))) (cap := 2) (by decide : ((2 : Int32)).toNatClampNeg ≤ 2) (by decide) (by decide) (by decide)
    obtain ⟨b24, g24⟩ : ∃ z, z = h0.size := ⟨_, rfl⟩
    rw [← g24] at A24 st24
    refine own_st st24 ?_
    have Z24 : n0 ≤ h24.size := Nat.le_trans Z0 E24.1
    have gnb24 : n0 ≤ b24 := Nat.le_trans Z0 (Nat.le_of_eq g24.symm)
    have gkb24 : h0.size ≤ b24 := Nat.le_trans K0.1 (Nat.le_of_eq g24.symm)
    have K24 : Keep h0 h24 [] := K0.ext E24
    have V24 : Arv Z h24 b24 k24 .int (2 : Int32) [(.int (0 : Int32)), (.int (0 : Int32))] (.int (0 : Int32)) := (Arv.new A24 (by decide : ¬ ((2 : Int32) < (0 : Int32)))).pad (pad_rep [] (.int (0 : Int32)) 2)
    show own_Go _ _ _ _ (T24.setTop (mkF m 45 #[.val (.int u0), .val (.int u1), .val (.int u2), .val (.int u3), .val (.int (2 : Int32)), .unset, .unset] [(.ref b24)]))
    refine own_st (fun _ k => XS.dup X24.here hx rfl (hb hby at_45) rfl rfl k) ?_
    show own_Go _ _ _ _ (T24.setTop (mkF m 46 #[.val (.int u0), .val (.int u1), .val (.int u2), .val (.int u3), .val (.int (2 : Int32)), .unset, .unset] [(.ref b24), (.ref b24)]))
    refine own_st (fun _ k => XS.iconst X24.here hx rfl (hb hby at_46) k) ?_
    show own_Go _ _ _ _ (T24.setTop (mkF m 47 #[.val (.int u0), .val (.int u1), .val (.int u2), .val (.int u3), .val (.int (2 : Int32)), .unset, .unset] [(.int (0 : Int32)), (.ref b24), (.ref b24)]))
    refine own_st (fun _ k => XS.iloadN X24.here hx rfl (hb hby at_47) rfl k) ?_
    show own_Go _ _ _ _ (T24.setTop (mkF m 48 #[.val (.int u0), .val (.int u1), .val (.int u2), .val (.int u3), .val (.int (2 : Int32)), .unset, .unset] [(.int u1), (.int (0 : Int32)), (.ref b24), (.ref b24)]))
    obtain ⟨cl25, Ar25, Kd25, Sz25, Nn25, Hs25, Gs25⟩ := id V24
    obtain ⟨T25, h25, X25, e25, W25, st25⟩ := stI X24 hx hZ e24 Ar25 (j := (0 : Int32)) (inb_of Sz25 ⟨(by decide : ¬ ((0 : Int32) < (0 : Int32))), (by decide : (0 : Int32) < (2 : Int32))⟩) (g := (mkF m 48 #[.val (.int u0), .val (.int u1), .val (.int u2), .val (.int u3), .val (.int (2 : Int32)), .unset, .unset] [(.int u1), (.int (0 : Int32)), (.ref b24), (.ref b24)])) rfl rfl (hb hby at_48)
    refine own_st st25 ?_
    have V25 := Arv.set Ar25 Kd25 Sz25 Nn25 Hs25 Gs25 rfl W25 0 rfl (Nat.le_of_ble_eq_true rfl)
    have V25' : Arv Z h25 b24 k24 .int (2 : Int32) [(.int u1), (.int (0 : Int32))] (.int (0 : Int32)) := V25
    have Z25 : n0 ≤ h25.size := Nat.le_trans Z24 (Nat.le_of_eq W25.size.symm)
    have N25 := Fr.snoc X25 N0 gnb24
    have K25 : Keep h0 h25 [] := K24.wr W25 (Or.inr gkb24)
    show own_Go _ _ _ _ (T25.setTop (mkF m 49 #[.val (.int u0), .val (.int u1), .val (.int u2), .val (.int u3), .val (.int (2 : Int32)), .unset, .unset] [(.ref b24)]))
    refine own_st (fun _ k => XS.dup X25.here hx rfl (hb hby at_49) rfl rfl k) ?_
    show own_Go _ _ _ _ (T25.setTop (mkF m 50 #[.val (.int u0), .val (.int u1), .val (.int u2), .val (.int u3), .val (.int (2 : Int32)), .unset, .unset] [(.ref b24), (.ref b24)]))
    refine own_st (fun _ k => XS.iconst X25.here hx rfl (hb hby at_50) k) ?_
    show own_Go _ _ _ _ (T25.setTop (mkF m 51 #[.val (.int u0), .val (.int u1), .val (.int u2), .val (.int u3), .val (.int (2 : Int32)), .unset, .unset] [(.int (1 : Int32)), (.ref b24), (.ref b24)]))
    refine own_st (fun _ k => XS.iloadN X25.here hx rfl (hb hby at_51) rfl k) ?_
    show own_Go _ _ _ _ (T25.setTop (mkF m 52 #[.val (.int u0), .val (.int u1), .val (.int u2), .val (.int u3), .val (.int (2 : Int32)), .unset, .unset] [(.int u2), (.int (1 : Int32)), (.ref b24), (.ref b24)]))
    obtain ⟨cl26, Ar26, Kd26, Sz26, Nn26, Hs26, Gs26⟩ := id V25'
    obtain ⟨T26, h26, X26, e26, W26, st26⟩ := stI X25 hx hZ e25 Ar26 (j := (1 : Int32)) (inb_of Sz26 ⟨(by decide : ¬ ((1 : Int32) < (0 : Int32))), (by decide : (1 : Int32) < (2 : Int32))⟩) (g := (mkF m 52 #[.val (.int u0), .val (.int u1), .val (.int u2), .val (.int u3), .val (.int (2 : Int32)), .unset, .unset] [(.int u2), (.int (1 : Int32)), (.ref b24), (.ref b24)])) rfl rfl (hb hby at_52)
    refine own_st st26 ?_
    have V26 := Arv.set Ar26 Kd26 Sz26 Nn26 Hs26 Gs26 rfl W26 1 rfl (Nat.le_of_ble_eq_true rfl)
    have V26' : Arv Z h26 b24 k24 .int (2 : Int32) [(.int u1), (.int u2)] (.int (0 : Int32)) := V26
    have Z26 : n0 ≤ h26.size := Nat.le_trans Z25 (Nat.le_of_eq W26.size.symm)
    have N26 := Fr.snoc X26 N25 gnb24
    have K26 : Keep h0 h26 [] := K25.wr W26 (Or.inr gkb24)
    show own_Go _ _ _ _ (T26.setTop (mkF m 53 #[.val (.int u0), .val (.int u1), .val (.int u2), .val (.int u3), .val (.int (2 : Int32)), .unset, .unset] [(.ref b24)]))
    refine own_st (fun _ k => XS.astore X26.here hx rfl (hb hby at_53) rfl rfl (l' := #[.val (.int u0), .val (.int u1), .val (.int u2), .val (.int u3), .val (.int (2 : Int32)), .val (.ref b24), .unset]) rfl k) ?_
    show own_Go _ _ _ _ (T26.setTop (mkF m 55 #[.val (.int u0), .val (.int u1), .val (.int u2), .val (.int u3), .val (.int (2 : Int32)), .val (.ref b24), .unset] []))
    refine own_st (fun _ k => XS.goto X26.here hx rfl (pc0 := 55) (pc' := 75) rfl (hb hby at_55) (by decide) (by decide) k) ?_
    show own_Go _ _ _ _ (T26.setTop (mkF m 75 #[.val (.int u0), .val (.int u1), .val (.int u2), .val (.int u3), .val (.int (2 : Int32)), .val (.ref b24), .unset] []))
    refine own_st (fun _ k => XS.iload X26.here hx rfl (hb hby at_75) rfl k) ?_
    show own_Go _ _ _ _ (T26.setTop (mkF m 77 #[.val (.int u0), .val (.int u1), .val (.int u2), .val (.int u3), .val (.int (2 : Int32)), .val (.ref b24), .unset] [(.int (2 : Int32))]))
    refine own_st (fun _ k => XS.ifYes X26.here hx rfl (pc0 := 77) (pc' := 87) rfl (hb hby at_77) rfl ((if0 _ _).trans (feq (by decide : ¬ ((2 : Int32) = (0 : Int32)))).2) (by decide) (by decide) k) ?_
    show own_Go _ _ _ _ (T26.setTop (mkF m 87 #[.val (.int u0), .val (.int u1), .val (.int u2), .val (.int u3), .val (.int (2 : Int32)), .val (.ref b24), .unset] []))
    refine own_st (fun _ k => XS.iloadN X26.here hx rfl (hb hby at_87) rfl k) ?_
    show own_Go _ _ _ _ (T26.setTop (mkF m 88 #[.val (.int u0), .val (.int u1), .val (.int u2), .val (.int u3), .val (.int (2 : Int32)), .val (.ref b24), .unset] [(.int u1)]))
    refine own_st (fun _ k => XS.istore X26.here hx rfl (hb hby at_88) rfl (l' := #[.val (.int u0), .val (.int u1), .val (.int u2), .val (.int u3), .val (.int (2 : Int32)), .val (.ref b24), .val (.int u1)]) rfl k) ?_
    show own_Go _ _ _ _ (T26.setTop (mkF m 90 #[.val (.int u0), .val (.int u1), .val (.int u2), .val (.int u3), .val (.int (2 : Int32)), .val (.ref b24), .val (.int u1)] []))
    refine own_st (fun _ k => XS.iload X26.here hx rfl (hb hby at_90) rfl k) ?_
    show own_Go _ _ _ _ (T26.setTop (mkF m 92 #[.val (.int u0), .val (.int u1), .val (.int u2), .val (.int u3), .val (.int (2 : Int32)), .val (.ref b24), .val (.int u1)] [(.int (2 : Int32))]))
    refine own_st (fun _ k => XS.iconst X26.here hx rfl (hb hby at_92) k) ?_
    show own_Go _ _ _ _ (T26.setTop (mkF m 93 #[.val (.int u0), .val (.int u1), .val (.int u2), .val (.int u3), .val (.int (2 : Int32)), .val (.ref b24), .val (.int u1)] [(.int (2 : Int32)), (.int (2 : Int32))]))
    refine own_st (fun _ k => XS.icmpNo X26.here hx rfl (hb hby at_93) rfl (flt (by decide : ¬ ((2 : Int32) < (2 : Int32)))).1 k) ?_
    show own_Go _ _ _ _ (T26.setTop (mkF m 96 #[.val (.int u0), .val (.int u1), .val (.int u2), .val (.int u3), .val (.int (2 : Int32)), .val (.ref b24), .val (.int u1)] []))
    refine own_st (fun _ k => XS.iloadN X26.here hx rfl (hb hby at_96) rfl k) ?_
    show own_Go _ _ _ _ (T26.setTop (mkF m 97 #[.val (.int u0), .val (.int u1), .val (.int u2), .val (.int u3), .val (.int (2 : Int32)), .val (.ref b24), .val (.int u1)] [(.int u2)]))
    refine own_st (fun _ k => XS.iload X26.here hx rfl (hb hby at_97) rfl k) ?_
    show own_Go _ _ _ _ (T26.setTop (mkF m 99 #[.val (.int u0), .val (.int u1), .val (.int u2), .val (.int u3), .val (.int (2 : Int32)), .val (.ref b24), .val (.int u1)] [(.int u1), (.int u2)]))
    by_cases hc27 : u1 < u2
    · skip
      refine own_st (fun _ k => XS.icmpNo X26.here hx rfl (hb hby at_99) rfl (tlt hc27).2.2.2 k) ?_
      show own_Go _ _ _ _ (T26.setTop (mkF m 102 #[.val (.int u0), .val (.int u1), .val (.int u2), .val (.int u3), .val (.int (2 : Int32)), .val (.ref b24), .val (.int u1)] []))
      refine own_st (fun _ k => XS.iloadN X26.here hx rfl (hb hby at_102) rfl k) ?_
      show own_Go _ _ _ _ (T26.setTop (mkF m 103 #[.val (.int u0), .val (.int u1), .val (.int u2), .val (.int u3), .val (.int (2 : Int32)), .val (.ref b24), .val (.int u1)] [(.int u2)]))
      refine own_st (fun _ k => XS.istore X26.here hx rfl (hb hby at_103) rfl (l' := #[.val (.int u0), .val (.int u1), .val (.int u2), .val (.int u3), .val (.int (2 : Int32)), .val (.ref b24), .val (.int u2)]) rfl k) ?_
      show own_Go _ _ _ _ (T26.setTop (mkF m 105 #[.val (.int u0), .val (.int u1), .val (.int u2), .val (.int u3), .val (.int (2 : Int32)), .val (.ref b24), .val (.int u2)] []))
      refine own_st (fun _ k => XS.iload X26.here hx rfl (hb hby at_105) rfl k) ?_
      show own_Go _ _ _ _ (T26.setTop (mkF m 107 #[.val (.int u0), .val (.int u1), .val (.int u2), .val (.int u3), .val (.int (2 : Int32)), .val (.ref b24), .val (.int u2)] [(.int (2 : Int32))]))
      refine own_st (fun _ k => XS.iconst X26.here hx rfl (hb hby at_107) k) ?_
      show own_Go _ _ _ _ (T26.setTop (mkF m 108 #[.val (.int u0), .val (.int u1), .val (.int u2), .val (.int u3), .val (.int (2 : Int32)), .val (.ref b24), .val (.int u2)] [(.int (3 : Int32)), (.int (2 : Int32))]))
      refine own_st (fun _ k => XS.icmpYes X26.here hx rfl (pc0 := 108) (pc' := 120) rfl (hb hby at_108) rfl (tlt (by decide : ((2 : Int32) < (3 : Int32)))).1 (by decide) (by decide) k) ?_
      show own_Go _ _ _ _ (T26.setTop (mkF m 120 #[.val (.int u0), .val (.int u1), .val (.int u2), .val (.int u3), .val (.int (2 : Int32)), .val (.ref b24), .val (.int u2)] []))
      refine own_st (fun _ k => XS.aload X26.here hx rfl (hb hby at_120) rfl rfl k) ?_
      show own_Go _ _ _ _ (T26.setTop (mkF m 122 #[.val (.int u0), .val (.int u1), .val (.int u2), .val (.int u3), .val (.int (2 : Int32)), .val (.ref b24), .val (.int u2)] [(.ref b24)]))
      obtain ⟨_, _, ⟨T28, L28, k28, n28⟩, -, X28, ⟨Lc28, hQ28, l28, y28, z28⟩, st28⟩ := Jvm.LawKit.callS X26 hx (y := (⟨"com/example/barred_owl/barredowl/Representation", "largest", "([I)I"⟩ : MethodName)) hown (mvT hZ (hw _ (List.mem_of_getElem? (i := 2) rfl))) (mvT hZ (hw _ (List.mem_of_getElem? (i := 3) rfl))) (mvT hZ (hw _ (List.mem_of_getElem? (i := 4) rfl))) (mvT hZ (hw _ (List.mem_of_getElem? (i := 5) rfl))) (by decide) (backOf (W := 0) (rm1_2 l Z a0 hw [] b24 k24 u1 u2 h26 n0 Z26 V26') hZ (hw _ (List.mem_of_getElem? (i := 5) rfl)) (hw _ (List.mem_of_getElem? (i := 4) rfl)) (by decide) (by decide)) (g := (mkF m 122 #[.val (.int u0), .val (.int u1), .val (.int u2), .val (.int u3), .val (.int (2 : Int32)), .val (.ref b24), .val (.int u2)] [(.ref b24)])) rfl (by rw [hml]; rfl) (argsL := [(.ref b24)]) (rest := []) (lenOf own_pd1 rfl) rfl (by show 2 * 0 + _ ≤ _; exact Nat.le_of_eq rfl) (hb hby at_122) (fun _ _ => ⟨rfl, e26, (by decide : 1 + 0 ≤ _), (by decide : 2 + 0 ≤ _)⟩)
      dsimp only [Pt.U, Pt.locs, Pt.cells, Pt.slots] at X28 l28 y28 z28 st28 hQ28
      subst l28 y28 z28
      obtain ⟨rfl, Nq28, eq28⟩ := hQ28
      have N28 := Fr.app N26 Nq28
      refine own_st st28 ?_
      show own_Go _ _ _ _ (T28.setTop (mkF m 125 #[.val (.int u0), .val (.int u1), .val (.int u2), .val (.int u3), .val (.int (2 : Int32)), .val (.ref b24), .val (.int u2)] [(.int (own_la2 u1 u2))]))
      refine own_st (fun _ k => XS.iload X28.here hx rfl (hb hby at_125) rfl k) ?_
      show own_Go _ _ _ _ (T28.setTop (mkF m 127 #[.val (.int u0), .val (.int u1), .val (.int u2), .val (.int u3), .val (.int (2 : Int32)), .val (.ref b24), .val (.int u2)] [(.int u2), (.int (own_la2 u1 u2))]))
      refine own_st (fun _ k => XS.icmpNo X28.here hx rfl (hb hby at_127) rfl (teq (by
          have z0 := hc27; unfold own_la2
          simp only [← Int32.toInt_inj, Int32.lt_iff_toInt_lt, own_mxi, Int32.reduceToInt] at *
          have r1 := rng32 u1
          have r2 := rng32 u2
          have r3 := rng32 u3
          (repeat' split) <;> omega)).2 k) ?_
      show own_Go _ _ _ _ (T28.setTop (mkF m 130 #[.val (.int u0), .val (.int u1), .val (.int u2), .val (.int u3), .val (.int (2 : Int32)), .val (.ref b24), .val (.int u2)] []))
      refine own_st (fun _ k => XS.iconst X28.here hx rfl (hb hby at_130) k) ?_
      show own_Go _ _ _ _ (T28.setTop (mkF m 131 #[.val (.int u0), .val (.int u1), .val (.int u2), .val (.int u3), .val (.int (2 : Int32)), .val (.ref b24), .val (.int u2)] [(.int (1 : Int32))]))
      refine own_st (fun _ k => XS.goto X28.here hx rfl (pc0 := 131) (pc' := 135) rfl (hb hby at_131) (by decide) (by decide) k) ?_
      show own_Go _ _ _ _ (T28.setTop (mkF m 135 #[.val (.int u0), .val (.int u1), .val (.int u2), .val (.int u3), .val (.int (2 : Int32)), .val (.ref b24), .val (.int u2)] [(.int (1 : Int32))]))
      obtain ⟨fs, hr, hrun, hended, hW, hsame⟩ := X28.leave (v := some (.int (1 : Int32))) (fun h => by rw [Bd.returns] at h; cases h)
      refine own_out (retN X28 hx (t := .boolean) Bd.returns (by simp) (hb hby at_135) hr) ⟨hrun, hended, _, _, rfl, ?_, ⟨_, rfl⟩, hW, hsame.mono (by decide) (by decide)⟩
      show Q0 Z u0 u1 u2 u3 h0 n0 _ T28.heap _
      exact ⟨rfl, N28⟩
    · skip
      refine own_st (fun _ k => XS.icmpYes X26.here hx rfl (pc0 := 99) (pc' := 105) rfl (hb hby at_99) rfl (flt hc27).2.2.2 (by decide) (by decide) k) ?_
      show own_Go _ _ _ _ (T26.setTop (mkF m 105 #[.val (.int u0), .val (.int u1), .val (.int u2), .val (.int u3), .val (.int (2 : Int32)), .val (.ref b24), .val (.int u1)] []))
      refine own_st (fun _ k => XS.iload X26.here hx rfl (hb hby at_105) rfl k) ?_
      show own_Go _ _ _ _ (T26.setTop (mkF m 107 #[.val (.int u0), .val (.int u1), .val (.int u2), .val (.int u3), .val (.int (2 : Int32)), .val (.ref b24), .val (.int u1)] [(.int (2 : Int32))]))
      refine own_st (fun _ k => XS.iconst X26.here hx rfl (hb hby at_107) k) ?_
      show own_Go _ _ _ _ (T26.setTop (mkF m 108 #[.val (.int u0), .val (.int u1), .val (.int u2), .val (.int u3), .val (.int (2 : Int32)), .val (.ref b24), .val (.int u1)] [(.int (3 : Int32)), (.int (2 : Int32))]))
      refine own_st (fun _ k => XS.icmpYes X26.here hx rfl (pc0 := 108) (pc' := 120) rfl (hb hby at_108) rfl (tlt (by decide : ((2 : Int32) < (3 : Int32)))).1 (by decide) (by decide) k) ?_
      show own_Go _ _ _ _ (T26.setTop (mkF m 120 #[.val (.int u0), .val (.int u1), .val (.int u2), .val (.int u3), .val (.int (2 : Int32)), .val (.ref b24), .val (.int u1)] []))
      refine own_st (fun _ k => XS.aload X26.here hx rfl (hb hby at_120) rfl rfl k) ?_
      show own_Go _ _ _ _ (T26.setTop (mkF m 122 #[.val (.int u0), .val (.int u1), .val (.int u2), .val (.int u3), .val (.int (2 : Int32)), .val (.ref b24), .val (.int u1)] [(.ref b24)]))
      obtain ⟨_, _, ⟨T29, L29, k29, n29⟩, -, X29, ⟨Lc29, hQ29, l29, y29, z29⟩, st29⟩ := Jvm.LawKit.callS X26 hx (y := (⟨"com/example/barred_owl/barredowl/Representation", "largest", "([I)I"⟩ : MethodName)) hown (mvT hZ (hw _ (List.mem_of_getElem? (i := 2) rfl))) (mvT hZ (hw _ (List.mem_of_getElem? (i := 3) rfl))) (mvT hZ (hw _ (List.mem_of_getElem? (i := 4) rfl))) (mvT hZ (hw _ (List.mem_of_getElem? (i := 5) rfl))) (by decide) (backOf (W := 0) (rm1_2 l Z a0 hw [] b24 k24 u1 u2 h26 n0 Z26 V26') hZ (hw _ (List.mem_of_getElem? (i := 5) rfl)) (hw _ (List.mem_of_getElem? (i := 4) rfl)) (by decide) (by decide)) (g := (mkF m 122 #[.val (.int u0), .val (.int u1), .val (.int u2), .val (.int u3), .val (.int (2 : Int32)), .val (.ref b24), .val (.int u1)] [(.ref b24)])) rfl (by rw [hml]; rfl) (argsL := [(.ref b24)]) (rest := []) (lenOf own_pd1 rfl) rfl (by show 2 * 0 + _ ≤ _; exact Nat.le_of_eq rfl) (hb hby at_122) (fun _ _ => ⟨rfl, e26, (by decide : 1 + 0 ≤ _), (by decide : 2 + 0 ≤ _)⟩)
      dsimp only [Pt.U, Pt.locs, Pt.cells, Pt.slots] at X29 l29 y29 z29 st29 hQ29
      subst l29 y29 z29
      obtain ⟨rfl, Nq29, eq29⟩ := hQ29
      have N29 := Fr.app N26 Nq29
      refine own_st st29 ?_
      show own_Go _ _ _ _ (T29.setTop (mkF m 125 #[.val (.int u0), .val (.int u1), .val (.int u2), .val (.int u3), .val (.int (2 : Int32)), .val (.ref b24), .val (.int u1)] [(.int (own_la2 u1 u2))]))
      refine own_st (fun _ k => XS.iload X29.here hx rfl (hb hby at_125) rfl k) ?_
      show own_Go _ _ _ _ (T29.setTop (mkF m 127 #[.val (.int u0), .val (.int u1), .val (.int u2), .val (.int u3), .val (.int (2 : Int32)), .val (.ref b24), .val (.int u1)] [(.int u1), (.int (own_la2 u1 u2))]))
      refine own_st (fun _ k => XS.icmpNo X29.here hx rfl (hb hby at_127) rfl (teq (by
          have z0 := hc27; unfold own_la2
          simp only [← Int32.toInt_inj, Int32.lt_iff_toInt_lt, own_mxi, Int32.reduceToInt] at *
          have r1 := rng32 u1
          have r2 := rng32 u2
          have r3 := rng32 u3
          (repeat' split) <;> omega)).2 k) ?_
      show own_Go _ _ _ _ (T29.setTop (mkF m 130 #[.val (.int u0), .val (.int u1), .val (.int u2), .val (.int u3), .val (.int (2 : Int32)), .val (.ref b24), .val (.int u1)] []))
      refine own_st (fun _ k => XS.iconst X29.here hx rfl (hb hby at_130) k) ?_
      show own_Go _ _ _ _ (T29.setTop (mkF m 131 #[.val (.int u0), .val (.int u1), .val (.int u2), .val (.int u3), .val (.int (2 : Int32)), .val (.ref b24), .val (.int u1)] [(.int (1 : Int32))]))
      refine own_st (fun _ k => XS.goto X29.here hx rfl (pc0 := 131) (pc' := 135) rfl (hb hby at_131) (by decide) (by decide) k) ?_
      show own_Go _ _ _ _ (T29.setTop (mkF m 135 #[.val (.int u0), .val (.int u1), .val (.int u2), .val (.int u3), .val (.int (2 : Int32)), .val (.ref b24), .val (.int u1)] [(.int (1 : Int32))]))
      obtain ⟨fs, hr, hrun, hended, hW, hsame⟩ := X29.leave (v := some (.int (1 : Int32))) (fun h => by rw [Bd.returns] at h; cases h)
      refine own_out (retN X29 hx (t := .boolean) Bd.returns (by simp) (hb hby at_135) hr) ⟨hrun, hended, _, _, rfl, ?_, ⟨_, rfl⟩, hW, hsame.mono (by decide) (by decide)⟩
      show Q0 Z u0 u1 u2 u3 h0 n0 _ T29.heap _
      exact ⟨rfl, N29⟩
  · skip
    rw [hs18]
    show own_Go _ _ _ _ (s₁.setTop (mkF m 5 #[.val (.int u0), .val (.int u1), .val (.int u2), .val (.int u3), .val (.int (3 : Int32)), .unset, .unset] []))
    refine own_st (fun _ k => XS.iload X0.here hx rfl (hb hby at_5) rfl k) ?_
    show own_Go _ _ _ _ (s₁.setTop (mkF m 7 #[.val (.int u0), .val (.int u1), .val (.int u2), .val (.int u3), .val (.int (3 : Int32)), .unset, .unset] [(.int (3 : Int32))]))
    refine own_st (fun _ k => XS.ifYes X0.here hx rfl (pc0 := 7) (pc' := 18) rfl (hb hby at_7) rfl ((if0 _ _).trans (feq (by decide : ¬ ((3 : Int32) = (0 : Int32)))).2) (by decide) (by decide) k) ?_
    show own_Go _ _ _ _ (s₁.setTop (mkF m 18 #[.val (.int u0), .val (.int u1), .val (.int u2), .val (.int u3), .val (.int (3 : Int32)), .unset, .unset] []))
    refine own_st (fun _ k => XS.iload X0.here hx rfl (hb hby at_18) rfl k) ?_
    show own_Go _ _ _ _ (s₁.setTop (mkF m 20 #[.val (.int u0), .val (.int u1), .val (.int u2), .val (.int u3), .val (.int (3 : Int32)), .unset, .unset] [(.int (3 : Int32))]))
    refine own_st (fun _ k => XS.iconst X0.here hx rfl (hb hby at_20) k) ?_
    show own_Go _ _ _ _ (s₁.setTop (mkF m 21 #[.val (.int u0), .val (.int u1), .val (.int u2), .val (.int u3), .val (.int (3 : Int32)), .unset, .unset] [(.int (1 : Int32)), (.int (3 : Int32))]))
    refine own_st (fun _ k => XS.icmpYes X0.here hx rfl (pc0 := 21) (pc' := 36) rfl (hb hby at_21) rfl (feq (by decide : ¬ ((3 : Int32) = (1 : Int32)))).2 (by decide) (by decide) k) ?_
    show own_Go _ _ _ _ (s₁.setTop (mkF m 36 #[.val (.int u0), .val (.int u1), .val (.int u2), .val (.int u3), .val (.int (3 : Int32)), .unset, .unset] []))
    refine own_st (fun _ k => XS.iload X0.here hx rfl (hb hby at_36) rfl k) ?_
    show own_Go _ _ _ _ (s₁.setTop (mkF m 38 #[.val (.int u0), .val (.int u1), .val (.int u2), .val (.int u3), .val (.int (3 : Int32)), .unset, .unset] [(.int (3 : Int32))]))
    refine own_st (fun _ k => XS.iconst X0.here hx rfl (hb hby at_38) k) ?_
    show own_Go _ _ _ _ (s₁.setTop (mkF m 39 #[.val (.int u0), .val (.int u1), .val (.int u2), .val (.int u3), .val (.int (3 : Int32)), .unset, .unset] [(.int (2 : Int32)), (.int (3 : Int32))]))
    refine own_st (fun _ k => XS.icmpYes X0.here hx rfl (pc0 := 39) (pc' := 58) rfl (hb hby at_39) rfl (feq (by decide : ¬ ((3 : Int32) = (2 : Int32)))).2 (by decide) (by decide) k) ?_
    show own_Go _ _ _ _ (s₁.setTop (mkF m 58 #[.val (.int u0), .val (.int u1), .val (.int u2), .val (.int u3), .val (.int (3 : Int32)), .unset, .unset] []))
    refine own_st (fun _ k => XS.iconst X0.here hx rfl (hb hby at_58) k) ?_
    show own_Go _ _ _ _ (s₁.setTop (mkF m 59 #[.val (.int u0), .val (.int u1), .val (.int u2), .val (.int u3), .val (.int (3 : Int32)), .unset, .unset] [(.int (3 : Int32))]))
    obtain ⟨T30, h30, k30, X30, e30, E30, A30, st30⟩ := newP X0 hx hZ (hw _ (List.mem_of_getElem? (i := 0) rfl)) e0 (g := (mkF m 59 #[.val (.int u0), .val (.int u1), .val (.int u2), .val (.int u3), .val (.int (3 : Int32)), .unset, .unset] [(.int (3 : Int32))])) rfl (hb hby at_59) rfl (by decide : ¬ ((3 : Int32) < (0 : Int32))) (cap := 3) (by decide : ((3 : Int32)).toNatClampNeg ≤ 3) (by decide) (by decide) (by decide)
    obtain ⟨b30, g30⟩ : ∃ z, z = h0.size := ⟨_, rfl⟩
    rw [← g30] at A30 st30
    refine own_st st30 ?_
    have Z30 : n0 ≤ h30.size := Nat.le_trans Z0 E30.1
    have gnb30 : n0 ≤ b30 := Nat.le_trans Z0 (Nat.le_of_eq g30.symm)
    have gkb30 : h0.size ≤ b30 := Nat.le_trans K0.1 (Nat.le_of_eq g30.symm)
    have K30 : Keep h0 h30 [] := K0.ext E30
    have V30 : Arv Z h30 b30 k30 .int (3 : Int32) [(.int (0 : Int32)), (.int (0 : Int32)), (.int (0 : Int32))] (.int (0 : Int32)) := (Arv.new A30 (by decide : ¬ ((3 : Int32) < (0 : Int32)))).pad (pad_rep [] (.int (0 : Int32)) 3)
    show own_Go _ _ _ _ (T30.setTop (mkF m 61 #[.val (.int u0), .val (.int u1), .val (.int u2), .val (.int u3), .val (.int (3 : Int32)), .unset, .unset] [(.ref b30)]))
    refine own_st (fun _ k => XS.dup X30.here hx rfl (hb hby at_61) rfl rfl k) ?_
    show own_Go _ _ _ _ (T30.setTop (mkF m 62 #[.val (.int u0), .val (.int u1), .val (.int u2), .val (.int u3), .val (.int (3 : Int32)), .unset, .unset] [(.ref b30), (.ref b30)]))
    refine own_st (fun _ k => XS.iconst X30.here hx rfl (hb hby at_62) k) ?_
    show own_Go _ _ _ _ (T30.setTop (mkF m 63 #[.val (.int u0), .val (.int u1), .val (.int u2), .val (.int u3), .val (.int (3 : Int32)), .unset, .unset] [(.int (0 : Int32)), (.ref b30), (.ref b30)]))
    refine own_st (fun _ k => XS.iloadN X30.here hx rfl (hb hby at_63) rfl k) ?_
    show own_Go _ _ _ _ (T30.setTop (mkF m 64 #[.val (.int u0), .val (.int u1), .val (.int u2), .val (.int u3), .val (.int (3 : Int32)), .unset, .unset] [(.int u1), (.int (0 : Int32)), (.ref b30), (.ref b30)]))
    obtain ⟨cl31, Ar31, Kd31, Sz31, Nn31, Hs31, Gs31⟩ := id V30
    obtain ⟨T31, h31, X31, e31, W31, st31⟩ := stI X30 hx hZ e30 Ar31 (j := (0 : Int32)) (inb_of Sz31 ⟨(by decide : ¬ ((0 : Int32) < (0 : Int32))), (by decide : (0 : Int32) < (3 : Int32))⟩) (g := (mkF m 64 #[.val (.int u0), .val (.int u1), .val (.int u2), .val (.int u3), .val (.int (3 : Int32)), .unset, .unset] [(.int u1), (.int (0 : Int32)), (.ref b30), (.ref b30)])) rfl rfl (hb hby at_64)
    refine own_st st31 ?_
    have V31 := Arv.set Ar31 Kd31 Sz31 Nn31 Hs31 Gs31 rfl W31 0 rfl (Nat.le_of_ble_eq_true rfl)
    have V31' : Arv Z h31 b30 k30 .int (3 : Int32) [(.int u1), (.int (0 : Int32)), (.int (0 : Int32))] (.int (0 : Int32)) := V31
    have Z31 : n0 ≤ h31.size := Nat.le_trans Z30 (Nat.le_of_eq W31.size.symm)
    have N31 := Fr.snoc X31 N0 gnb30
    have K31 : Keep h0 h31 [] := K30.wr W31 (Or.inr gkb30)
    show own_Go _ _ _ _ (T31.setTop (mkF m 65 #[.val (.int u0), .val (.int u1), .val (.int u2), .val (.int u3), .val (.int (3 : Int32)), .unset, .unset] [(.ref b30)]))
    refine own_st (fun _ k => XS.dup X31.here hx rfl (hb hby at_65) rfl rfl k) ?_
    show own_Go _ _ _ _ (T31.setTop (mkF m 66 #[.val (.int u0), .val (.int u1), .val (.int u2), .val (.int u3), .val (.int (3 : Int32)), .unset, .unset] [(.ref b30), (.ref b30)]))
    refine own_st (fun _ k => XS.iconst X31.here hx rfl (hb hby at_66) k) ?_
    show own_Go _ _ _ _ (T31.setTop (mkF m 67 #[.val (.int u0), .val (.int u1), .val (.int u2), .val (.int u3), .val (.int (3 : Int32)), .unset, .unset] [(.int (1 : Int32)), (.ref b30), (.ref b30)]))
    refine own_st (fun _ k => XS.iloadN X31.here hx rfl (hb hby at_67) rfl k) ?_
    show own_Go _ _ _ _ (T31.setTop (mkF m 68 #[.val (.int u0), .val (.int u1), .val (.int u2), .val (.int u3), .val (.int (3 : Int32)), .unset, .unset] [(.int u2), (.int (1 : Int32)), (.ref b30), (.ref b30)]))
    obtain ⟨cl32, Ar32, Kd32, Sz32, Nn32, Hs32, Gs32⟩ := id V31'
    obtain ⟨T32, h32, X32, e32, W32, st32⟩ := stI X31 hx hZ e31 Ar32 (j := (1 : Int32)) (inb_of Sz32 ⟨(by decide : ¬ ((1 : Int32) < (0 : Int32))), (by decide : (1 : Int32) < (3 : Int32))⟩) (g := (mkF m 68 #[.val (.int u0), .val (.int u1), .val (.int u2), .val (.int u3), .val (.int (3 : Int32)), .unset, .unset] [(.int u2), (.int (1 : Int32)), (.ref b30), (.ref b30)])) rfl rfl (hb hby at_68)
    refine own_st st32 ?_
    have V32 := Arv.set Ar32 Kd32 Sz32 Nn32 Hs32 Gs32 rfl W32 1 rfl (Nat.le_of_ble_eq_true rfl)
    have V32' : Arv Z h32 b30 k30 .int (3 : Int32) [(.int u1), (.int u2), (.int (0 : Int32))] (.int (0 : Int32)) := V32
    have Z32 : n0 ≤ h32.size := Nat.le_trans Z31 (Nat.le_of_eq W32.size.symm)
    have N32 := Fr.snoc X32 N31 gnb30
    have K32 : Keep h0 h32 [] := K31.wr W32 (Or.inr gkb30)
    show own_Go _ _ _ _ (T32.setTop (mkF m 69 #[.val (.int u0), .val (.int u1), .val (.int u2), .val (.int u3), .val (.int (3 : Int32)), .unset, .unset] [(.ref b30)]))
    refine own_st (fun _ k => XS.dup X32.here hx rfl (hb hby at_69) rfl rfl k) ?_
    show own_Go _ _ _ _ (T32.setTop (mkF m 70 #[.val (.int u0), .val (.int u1), .val (.int u2), .val (.int u3), .val (.int (3 : Int32)), .unset, .unset] [(.ref b30), (.ref b30)]))
    refine own_st (fun _ k => XS.iconst X32.here hx rfl (hb hby at_70) k) ?_
    show own_Go _ _ _ _ (T32.setTop (mkF m 71 #[.val (.int u0), .val (.int u1), .val (.int u2), .val (.int u3), .val (.int (3 : Int32)), .unset, .unset] [(.int (2 : Int32)), (.ref b30), (.ref b30)]))
    refine own_st (fun _ k => XS.iloadN X32.here hx rfl (hb hby at_71) rfl k) ?_
    show own_Go _ _ _ _ (T32.setTop (mkF m 72 #[.val (.int u0), .val (.int u1), .val (.int u2), .val (.int u3), .val (.int (3 : Int32)), .unset, .unset] [(.int u3), (.int (2 : Int32)), (.ref b30), (.ref b30)]))
    obtain ⟨cl33, Ar33, Kd33, Sz33, Nn33, Hs33, Gs33⟩ := id V32'
    obtain ⟨T33, h33, X33, e33, W33, st33⟩ := stI X32 hx hZ e32 Ar33 (j := (2 : Int32)) (inb_of Sz33 ⟨(by decide : ¬ ((2 : Int32) < (0 : Int32))), (by decide : (2 : Int32) < (3 : Int32))⟩) (g := (mkF m 72 #[.val (.int u0), .val (.int u1), .val (.int u2), .val (.int u3), .val (.int (3 : Int32)), .unset, .unset] [(.int u3), (.int (2 : Int32)), (.ref b30), (.ref b30)])) rfl rfl (hb hby at_72)
    refine own_st st33 ?_
    have V33 := Arv.set Ar33 Kd33 Sz33 Nn33 Hs33 Gs33 rfl W33 2 rfl (Nat.le_of_ble_eq_true rfl)
    have V33' : Arv Z h33 b30 k30 .int (3 : Int32) [(.int u1), (.int u2), (.int u3)] (.int (0 : Int32)) := V33
    have Z33 : n0 ≤ h33.size := Nat.le_trans Z32 (Nat.le_of_eq W33.size.symm)
    have N33 := Fr.snoc X33 N32 gnb30
    have K33 : Keep h0 h33 [] := K32.wr W33 (Or.inr gkb30)
    show own_Go _ _ _ _ (T33.setTop (mkF m 73 #[.val (.int u0), .val (.int u1), .val (.int u2), .val (.int u3), .val (.int (3 : Int32)), .unset, .unset] [(.ref b30)]))
    refine own_st (fun _ k => XS.astore X33.here hx rfl (hb hby at_73) rfl rfl (l' := #[.val (.int u0), .val (.int u1), .val (.int u2), .val (.int u3), .val (.int (3 : Int32)), .val (.ref b30), .unset]) rfl k) ?_
    show own_Go _ _ _ _ (T33.setTop (mkF m 75 #[.val (.int u0), .val (.int u1), .val (.int u2), .val (.int u3), .val (.int (3 : Int32)), .val (.ref b30), .unset] []))
    refine own_st (fun _ k => XS.iload X33.here hx rfl (hb hby at_75) rfl k) ?_
    show own_Go _ _ _ _ (T33.setTop (mkF m 77 #[.val (.int u0), .val (.int u1), .val (.int u2), .val (.int u3), .val (.int (3 : Int32)), .val (.ref b30), .unset] [(.int (3 : Int32))]))
    refine own_st (fun _ k => XS.ifYes X33.here hx rfl (pc0 := 77) (pc' := 87) rfl (hb hby at_77) rfl ((if0 _ _).trans (feq (by decide : ¬ ((3 : Int32) = (0 : Int32)))).2) (by decide) (by decide) k) ?_
    show own_Go _ _ _ _ (T33.setTop (mkF m 87 #[.val (.int u0), .val (.int u1), .val (.int u2), .val (.int u3), .val (.int (3 : Int32)), .val (.ref b30), .unset] []))
    refine own_st (fun _ k => XS.iloadN X33.here hx rfl (hb hby at_87) rfl k) ?_
    show own_Go _ _ _ _ (T33.setTop (mkF m 88 #[.val (.int u0), .val (.int u1), .val (.int u2), .val (.int u3), .val (.int (3 : Int32)), .val (.ref b30), .unset] [(.int u1)]))
    refine own_st (fun _ k => XS.istore X33.here hx rfl (hb hby at_88) rfl (l' := #[.val (.int u0), .val (.int u1), .val (.int u2), .val (.int u3), .val (.int (3 : Int32)), .val (.ref b30), .val (.int u1)]) rfl k) ?_
    show own_Go _ _ _ _ (T33.setTop (mkF m 90 #[.val (.int u0), .val (.int u1), .val (.int u2), .val (.int u3), .val (.int (3 : Int32)), .val (.ref b30), .val (.int u1)] []))
    refine own_st (fun _ k => XS.iload X33.here hx rfl (hb hby at_90) rfl k) ?_
    show own_Go _ _ _ _ (T33.setTop (mkF m 92 #[.val (.int u0), .val (.int u1), .val (.int u2), .val (.int u3), .val (.int (3 : Int32)), .val (.ref b30), .val (.int u1)] [(.int (3 : Int32))]))
    refine own_st (fun _ k => XS.iconst X33.here hx rfl (hb hby at_92) k) ?_
    show own_Go _ _ _ _ (T33.setTop (mkF m 93 #[.val (.int u0), .val (.int u1), .val (.int u2), .val (.int u3), .val (.int (3 : Int32)), .val (.ref b30), .val (.int u1)] [(.int (2 : Int32)), (.int (3 : Int32))]))
    refine own_st (fun _ k => XS.icmpNo X33.here hx rfl (hb hby at_93) rfl (flt (by decide : ¬ ((3 : Int32) < (2 : Int32)))).1 k) ?_
    show own_Go _ _ _ _ (T33.setTop (mkF m 96 #[.val (.int u0), .val (.int u1), .val (.int u2), .val (.int u3), .val (.int (3 : Int32)), .val (.ref b30), .val (.int u1)] []))
    refine own_st (fun _ k => XS.iloadN X33.here hx rfl (hb hby at_96) rfl k) ?_
    show own_Go _ _ _ _ (T33.setTop (mkF m 97 #[.val (.int u0), .val (.int u1), .val (.int u2), .val (.int u3), .val (.int (3 : Int32)), .val (.ref b30), .val (.int u1)] [(.int u2)]))
    refine own_st (fun _ k => XS.iload X33.here hx rfl (hb hby at_97) rfl k) ?_
    show own_Go _ _ _ _ (T33.setTop (mkF m 99 #[.val (.int u0), .val (.int u1), .val (.int u2), .val (.int u3), .val (.int (3 : Int32)), .val (.ref b30), .val (.int u1)] [(.int u1), (.int u2)]))
    by_cases hc34 : u1 < u2
    · skip
      refine own_st (fun _ k => XS.icmpNo X33.here hx rfl (hb hby at_99) rfl (tlt hc34).2.2.2 k) ?_
      show own_Go _ _ _ _ (T33.setTop (mkF m 102 #[.val (.int u0), .val (.int u1), .val (.int u2), .val (.int u3), .val (.int (3 : Int32)), .val (.ref b30), .val (.int u1)] []))
      refine own_st (fun _ k => XS.iloadN X33.here hx rfl (hb hby at_102) rfl k) ?_
      show own_Go _ _ _ _ (T33.setTop (mkF m 103 #[.val (.int u0), .val (.int u1), .val (.int u2), .val (.int u3), .val (.int (3 : Int32)), .val (.ref b30), .val (.int u1)] [(.int u2)]))
      refine own_st (fun _ k => XS.istore X33.here hx rfl (hb hby at_103) rfl (l' := #[.val (.int u0), .val (.int u1), .val (.int u2), .val (.int u3), .val (.int (3 : Int32)), .val (.ref b30), .val (.int u2)]) rfl k) ?_
      show own_Go _ _ _ _ (T33.setTop (mkF m 105 #[.val (.int u0), .val (.int u1), .val (.int u2), .val (.int u3), .val (.int (3 : Int32)), .val (.ref b30), .val (.int u2)] []))
      refine own_st (fun _ k => XS.iload X33.here hx rfl (hb hby at_105) rfl k) ?_
      show own_Go _ _ _ _ (T33.setTop (mkF m 107 #[.val (.int u0), .val (.int u1), .val (.int u2), .val (.int u3), .val (.int (3 : Int32)), .val (.ref b30), .val (.int u2)] [(.int (3 : Int32))]))
      refine own_st (fun _ k => XS.iconst X33.here hx rfl (hb hby at_107) k) ?_
      show own_Go _ _ _ _ (T33.setTop (mkF m 108 #[.val (.int u0), .val (.int u1), .val (.int u2), .val (.int u3), .val (.int (3 : Int32)), .val (.ref b30), .val (.int u2)] [(.int (3 : Int32)), (.int (3 : Int32))]))
      refine own_st (fun _ k => XS.icmpNo X33.here hx rfl (hb hby at_108) rfl (flt (by decide : ¬ ((3 : Int32) < (3 : Int32)))).1 k) ?_
      show own_Go _ _ _ _ (T33.setTop (mkF m 111 #[.val (.int u0), .val (.int u1), .val (.int u2), .val (.int u3), .val (.int (3 : Int32)), .val (.ref b30), .val (.int u2)] []))
      refine own_st (fun _ k => XS.iloadN X33.here hx rfl (hb hby at_111) rfl k) ?_
      show own_Go _ _ _ _ (T33.setTop (mkF m 112 #[.val (.int u0), .val (.int u1), .val (.int u2), .val (.int u3), .val (.int (3 : Int32)), .val (.ref b30), .val (.int u2)] [(.int u3)]))
      refine own_st (fun _ k => XS.iload X33.here hx rfl (hb hby at_112) rfl k) ?_
      show own_Go _ _ _ _ (T33.setTop (mkF m 114 #[.val (.int u0), .val (.int u1), .val (.int u2), .val (.int u3), .val (.int (3 : Int32)), .val (.ref b30), .val (.int u2)] [(.int u2), (.int u3)]))
      by_cases hc35 : u2 < u3
      · skip
        refine own_st (fun _ k => XS.icmpNo X33.here hx rfl (hb hby at_114) rfl (tlt hc35).2.2.2 k) ?_
        show own_Go _ _ _ _ (T33.setTop (mkF m 117 #[.val (.int u0), .val (.int u1), .val (.int u2), .val (.int u3), .val (.int (3 : Int32)), .val (.ref b30), .val (.int u2)] []))
        refine own_st (fun _ k => XS.iloadN X33.here hx rfl (hb hby at_117) rfl k) ?_
        show own_Go _ _ _ _ (T33.setTop (mkF m 118 #[.val (.int u0), .val (.int u1), .val (.int u2), .val (.int u3), .val (.int (3 : Int32)), .val (.ref b30), .val (.int u2)] [(.int u3)]))
        refine own_st (fun _ k => XS.istore X33.here hx rfl (hb hby at_118) rfl (l' := #[.val (.int u0), .val (.int u1), .val (.int u2), .val (.int u3), .val (.int (3 : Int32)), .val (.ref b30), .val (.int u3)]) rfl k) ?_
        show own_Go _ _ _ _ (T33.setTop (mkF m 120 #[.val (.int u0), .val (.int u1), .val (.int u2), .val (.int u3), .val (.int (3 : Int32)), .val (.ref b30), .val (.int u3)] []))
        refine own_st (fun _ k => XS.aload X33.here hx rfl (hb hby at_120) rfl rfl k) ?_
        show own_Go _ _ _ _ (T33.setTop (mkF m 122 #[.val (.int u0), .val (.int u1), .val (.int u2), .val (.int u3), .val (.int (3 : Int32)), .val (.ref b30), .val (.int u3)] [(.ref b30)]))
        obtain ⟨_, _, ⟨T36, L36, k36, n36⟩, -, X36, ⟨Lc36, hQ36, l36, y36, z36⟩, st36⟩ := Jvm.LawKit.callS X33 hx (y := (⟨"com/example/barred_owl/barredowl/Representation", "largest", "([I)I"⟩ : MethodName)) hown (mvT hZ (hw _ (List.mem_of_getElem? (i := 2) rfl))) (mvT hZ (hw _ (List.mem_of_getElem? (i := 3) rfl))) (mvT hZ (hw _ (List.mem_of_getElem? (i := 4) rfl))) (mvT hZ (hw _ (List.mem_of_getElem? (i := 5) rfl))) (by decide) (backOf (W := 0) (rm1_3 l Z a0 hw [] b30 k30 u1 u2 u3 h33 n0 Z33 V33') hZ (hw _ (List.mem_of_getElem? (i := 5) rfl)) (hw _ (List.mem_of_getElem? (i := 4) rfl)) (by decide) (by decide)) (g := (mkF m 122 #[.val (.int u0), .val (.int u1), .val (.int u2), .val (.int u3), .val (.int (3 : Int32)), .val (.ref b30), .val (.int u3)] [(.ref b30)])) rfl (by rw [hml]; rfl) (argsL := [(.ref b30)]) (rest := []) (lenOf own_pd1 rfl) rfl (by show 2 * 0 + _ ≤ _; exact Nat.le_of_eq rfl) (hb hby at_122) (fun _ _ => ⟨rfl, e33, (by decide : 1 + 0 ≤ _), (by decide : 3 + 0 ≤ _)⟩)
        dsimp only [Pt.U, Pt.locs, Pt.cells, Pt.slots] at X36 l36 y36 z36 st36 hQ36
        subst l36 y36 z36
        obtain ⟨rfl, Nq36, eq36⟩ := hQ36
        have N36 := Fr.app N33 Nq36
        refine own_st st36 ?_
        show own_Go _ _ _ _ (T36.setTop (mkF m 125 #[.val (.int u0), .val (.int u1), .val (.int u2), .val (.int u3), .val (.int (3 : Int32)), .val (.ref b30), .val (.int u3)] [(.int (own_la3 u1 u2 u3))]))
        refine own_st (fun _ k => XS.iload X36.here hx rfl (hb hby at_125) rfl k) ?_
        show own_Go _ _ _ _ (T36.setTop (mkF m 127 #[.val (.int u0), .val (.int u1), .val (.int u2), .val (.int u3), .val (.int (3 : Int32)), .val (.ref b30), .val (.int u3)] [(.int u3), (.int (own_la3 u1 u2 u3))]))
        refine own_st (fun _ k => XS.icmpNo X36.here hx rfl (hb hby at_127) rfl (teq (by
            have z0 := hc34; have z1 := hc35; unfold own_la3
            simp only [← Int32.toInt_inj, Int32.lt_iff_toInt_lt, own_mxi, Int32.reduceToInt] at *
            have r1 := rng32 u1
            have r2 := rng32 u2
            have r3 := rng32 u3
            (repeat' split) <;> omega)).2 k) ?_
        show own_Go _ _ _ _ (T36.setTop (mkF m 130 #[.val (.int u0), .val (.int u1), .val (.int u2), .val (.int u3), .val (.int (3 : Int32)), .val (.ref b30), .val (.int u3)] []))
        refine own_st (fun _ k => XS.iconst X36.here hx rfl (hb hby at_130) k) ?_
        show own_Go _ _ _ _ (T36.setTop (mkF m 131 #[.val (.int u0), .val (.int u1), .val (.int u2), .val (.int u3), .val (.int (3 : Int32)), .val (.ref b30), .val (.int u3)] [(.int (1 : Int32))]))
        refine own_st (fun _ k => XS.goto X36.here hx rfl (pc0 := 131) (pc' := 135) rfl (hb hby at_131) (by decide) (by decide) k) ?_
        show own_Go _ _ _ _ (T36.setTop (mkF m 135 #[.val (.int u0), .val (.int u1), .val (.int u2), .val (.int u3), .val (.int (3 : Int32)), .val (.ref b30), .val (.int u3)] [(.int (1 : Int32))]))
        obtain ⟨fs, hr, hrun, hended, hW, hsame⟩ := X36.leave (v := some (.int (1 : Int32))) (fun h => by rw [Bd.returns] at h; cases h)
        refine own_out (retN X36 hx (t := .boolean) Bd.returns (by simp) (hb hby at_135) hr) ⟨hrun, hended, _, _, rfl, ?_, ⟨_, rfl⟩, hW, hsame.mono (by decide) (by decide)⟩
        show Q0 Z u0 u1 u2 u3 h0 n0 _ T36.heap _
        exact ⟨rfl, N36⟩
      · skip
        refine own_st (fun _ k => XS.icmpYes X33.here hx rfl (pc0 := 114) (pc' := 120) rfl (hb hby at_114) rfl (flt hc35).2.2.2 (by decide) (by decide) k) ?_
        show own_Go _ _ _ _ (T33.setTop (mkF m 120 #[.val (.int u0), .val (.int u1), .val (.int u2), .val (.int u3), .val (.int (3 : Int32)), .val (.ref b30), .val (.int u2)] []))
        refine own_st (fun _ k => XS.aload X33.here hx rfl (hb hby at_120) rfl rfl k) ?_
        show own_Go _ _ _ _ (T33.setTop (mkF m 122 #[.val (.int u0), .val (.int u1), .val (.int u2), .val (.int u3), .val (.int (3 : Int32)), .val (.ref b30), .val (.int u2)] [(.ref b30)]))
        obtain ⟨_, _, ⟨T37, L37, k37, n37⟩, -, X37, ⟨Lc37, hQ37, l37, y37, z37⟩, st37⟩ := Jvm.LawKit.callS X33 hx (y := (⟨"com/example/barred_owl/barredowl/Representation", "largest", "([I)I"⟩ : MethodName)) hown (mvT hZ (hw _ (List.mem_of_getElem? (i := 2) rfl))) (mvT hZ (hw _ (List.mem_of_getElem? (i := 3) rfl))) (mvT hZ (hw _ (List.mem_of_getElem? (i := 4) rfl))) (mvT hZ (hw _ (List.mem_of_getElem? (i := 5) rfl))) (by decide) (backOf (W := 0) (rm1_3 l Z a0 hw [] b30 k30 u1 u2 u3 h33 n0 Z33 V33') hZ (hw _ (List.mem_of_getElem? (i := 5) rfl)) (hw _ (List.mem_of_getElem? (i := 4) rfl)) (by decide) (by decide)) (g := (mkF m 122 #[.val (.int u0), .val (.int u1), .val (.int u2), .val (.int u3), .val (.int (3 : Int32)), .val (.ref b30), .val (.int u2)] [(.ref b30)])) rfl (by rw [hml]; rfl) (argsL := [(.ref b30)]) (rest := []) (lenOf own_pd1 rfl) rfl (by show 2 * 0 + _ ≤ _; exact Nat.le_of_eq rfl) (hb hby at_122) (fun _ _ => ⟨rfl, e33, (by decide : 1 + 0 ≤ _), (by decide : 3 + 0 ≤ _)⟩)
        dsimp only [Pt.U, Pt.locs, Pt.cells, Pt.slots] at X37 l37 y37 z37 st37 hQ37
        subst l37 y37 z37
        obtain ⟨rfl, Nq37, eq37⟩ := hQ37
        have N37 := Fr.app N33 Nq37
        refine own_st st37 ?_
        show own_Go _ _ _ _ (T37.setTop (mkF m 125 #[.val (.int u0), .val (.int u1), .val (.int u2), .val (.int u3), .val (.int (3 : Int32)), .val (.ref b30), .val (.int u2)] [(.int (own_la3 u1 u2 u3))]))
        refine own_st (fun _ k => XS.iload X37.here hx rfl (hb hby at_125) rfl k) ?_
        show own_Go _ _ _ _ (T37.setTop (mkF m 127 #[.val (.int u0), .val (.int u1), .val (.int u2), .val (.int u3), .val (.int (3 : Int32)), .val (.ref b30), .val (.int u2)] [(.int u2), (.int (own_la3 u1 u2 u3))]))
        refine own_st (fun _ k => XS.icmpNo X37.here hx rfl (hb hby at_127) rfl (teq (by
            have z0 := hc34; have z1 := hc35; unfold own_la3
            simp only [← Int32.toInt_inj, Int32.lt_iff_toInt_lt, own_mxi, Int32.reduceToInt] at *
            have r1 := rng32 u1
            have r2 := rng32 u2
            have r3 := rng32 u3
            (repeat' split) <;> omega)).2 k) ?_
        show own_Go _ _ _ _ (T37.setTop (mkF m 130 #[.val (.int u0), .val (.int u1), .val (.int u2), .val (.int u3), .val (.int (3 : Int32)), .val (.ref b30), .val (.int u2)] []))
        refine own_st (fun _ k => XS.iconst X37.here hx rfl (hb hby at_130) k) ?_
        show own_Go _ _ _ _ (T37.setTop (mkF m 131 #[.val (.int u0), .val (.int u1), .val (.int u2), .val (.int u3), .val (.int (3 : Int32)), .val (.ref b30), .val (.int u2)] [(.int (1 : Int32))]))
        refine own_st (fun _ k => XS.goto X37.here hx rfl (pc0 := 131) (pc' := 135) rfl (hb hby at_131) (by decide) (by decide) k) ?_
        show own_Go _ _ _ _ (T37.setTop (mkF m 135 #[.val (.int u0), .val (.int u1), .val (.int u2), .val (.int u3), .val (.int (3 : Int32)), .val (.ref b30), .val (.int u2)] [(.int (1 : Int32))]))
        obtain ⟨fs, hr, hrun, hended, hW, hsame⟩ := X37.leave (v := some (.int (1 : Int32))) (fun h => by rw [Bd.returns] at h; cases h)
        refine own_out (retN X37 hx (t := .boolean) Bd.returns (by simp) (hb hby at_135) hr) ⟨hrun, hended, _, _, rfl, ?_, ⟨_, rfl⟩, hW, hsame.mono (by decide) (by decide)⟩
        show Q0 Z u0 u1 u2 u3 h0 n0 _ T37.heap _
        exact ⟨rfl, N37⟩
    · skip
      refine own_st (fun _ k => XS.icmpYes X33.here hx rfl (pc0 := 99) (pc' := 105) rfl (hb hby at_99) rfl (flt hc34).2.2.2 (by decide) (by decide) k) ?_
      show own_Go _ _ _ _ (T33.setTop (mkF m 105 #[.val (.int u0), .val (.int u1), .val (.int u2), .val (.int u3), .val (.int (3 : Int32)), .val (.ref b30), .val (.int u1)] []))
      refine own_st (fun _ k => XS.iload X33.here hx rfl (hb hby at_105) rfl k) ?_
      show own_Go _ _ _ _ (T33.setTop (mkF m 107 #[.val (.int u0), .val (.int u1), .val (.int u2), .val (.int u3), .val (.int (3 : Int32)), .val (.ref b30), .val (.int u1)] [(.int (3 : Int32))]))
      refine own_st (fun _ k => XS.iconst X33.here hx rfl (hb hby at_107) k) ?_
      show own_Go _ _ _ _ (T33.setTop (mkF m 108 #[.val (.int u0), .val (.int u1), .val (.int u2), .val (.int u3), .val (.int (3 : Int32)), .val (.ref b30), .val (.int u1)] [(.int (3 : Int32)), (.int (3 : Int32))]))
      refine own_st (fun _ k => XS.icmpNo X33.here hx rfl (hb hby at_108) rfl (flt (by decide : ¬ ((3 : Int32) < (3 : Int32)))).1 k) ?_
      show own_Go _ _ _ _ (T33.setTop (mkF m 111 #[.val (.int u0), .val (.int u1), .val (.int u2), .val (.int u3), .val (.int (3 : Int32)), .val (.ref b30), .val (.int u1)] []))
      refine own_st (fun _ k => XS.iloadN X33.here hx rfl (hb hby at_111) rfl k) ?_
      show own_Go _ _ _ _ (T33.setTop (mkF m 112 #[.val (.int u0), .val (.int u1), .val (.int u2), .val (.int u3), .val (.int (3 : Int32)), .val (.ref b30), .val (.int u1)] [(.int u3)]))
      refine own_st (fun _ k => XS.iload X33.here hx rfl (hb hby at_112) rfl k) ?_
      show own_Go _ _ _ _ (T33.setTop (mkF m 114 #[.val (.int u0), .val (.int u1), .val (.int u2), .val (.int u3), .val (.int (3 : Int32)), .val (.ref b30), .val (.int u1)] [(.int u1), (.int u3)]))
      by_cases hc38 : u1 < u3
      · skip
        refine own_st (fun _ k => XS.icmpNo X33.here hx rfl (hb hby at_114) rfl (tlt hc38).2.2.2 k) ?_
        show own_Go _ _ _ _ (T33.setTop (mkF m 117 #[.val (.int u0), .val (.int u1), .val (.int u2), .val (.int u3), .val (.int (3 : Int32)), .val (.ref b30), .val (.int u1)] []))
        refine own_st (fun _ k => XS.iloadN X33.here hx rfl (hb hby at_117) rfl k) ?_
        show own_Go _ _ _ _ (T33.setTop (mkF m 118 #[.val (.int u0), .val (.int u1), .val (.int u2), .val (.int u3), .val (.int (3 : Int32)), .val (.ref b30), .val (.int u1)] [(.int u3)]))
        refine own_st (fun _ k => XS.istore X33.here hx rfl (hb hby at_118) rfl (l' := #[.val (.int u0), .val (.int u1), .val (.int u2), .val (.int u3), .val (.int (3 : Int32)), .val (.ref b30), .val (.int u3)]) rfl k) ?_
        show own_Go _ _ _ _ (T33.setTop (mkF m 120 #[.val (.int u0), .val (.int u1), .val (.int u2), .val (.int u3), .val (.int (3 : Int32)), .val (.ref b30), .val (.int u3)] []))
        refine own_st (fun _ k => XS.aload X33.here hx rfl (hb hby at_120) rfl rfl k) ?_
        show own_Go _ _ _ _ (T33.setTop (mkF m 122 #[.val (.int u0), .val (.int u1), .val (.int u2), .val (.int u3), .val (.int (3 : Int32)), .val (.ref b30), .val (.int u3)] [(.ref b30)]))
        obtain ⟨_, _, ⟨T39, L39, k39, n39⟩, -, X39, ⟨Lc39, hQ39, l39, y39, z39⟩, st39⟩ := Jvm.LawKit.callS X33 hx (y := (⟨"com/example/barred_owl/barredowl/Representation", "largest", "([I)I"⟩ : MethodName)) hown (mvT hZ (hw _ (List.mem_of_getElem? (i := 2) rfl))) (mvT hZ (hw _ (List.mem_of_getElem? (i := 3) rfl))) (mvT hZ (hw _ (List.mem_of_getElem? (i := 4) rfl))) (mvT hZ (hw _ (List.mem_of_getElem? (i := 5) rfl))) (by decide) (backOf (W := 0) (rm1_3 l Z a0 hw [] b30 k30 u1 u2 u3 h33 n0 Z33 V33') hZ (hw _ (List.mem_of_getElem? (i := 5) rfl)) (hw _ (List.mem_of_getElem? (i := 4) rfl)) (by decide) (by decide)) (g := (mkF m 122 #[.val (.int u0), .val (.int u1), .val (.int u2), .val (.int u3), .val (.int (3 : Int32)), .val (.ref b30), .val (.int u3)] [(.ref b30)])) rfl (by rw [hml]; rfl) (argsL := [(.ref b30)]) (rest := []) (lenOf own_pd1 rfl) rfl (by show 2 * 0 + _ ≤ _; exact Nat.le_of_eq rfl) (hb hby at_122) (fun _ _ => ⟨rfl, e33, (by decide : 1 + 0 ≤ _), (by decide : 3 + 0 ≤ _)⟩)
        dsimp only [Pt.U, Pt.locs, Pt.cells, Pt.slots] at X39 l39 y39 z39 st39 hQ39
        subst l39 y39 z39
        obtain ⟨rfl, Nq39, eq39⟩ := hQ39
        have N39 := Fr.app N33 Nq39
        refine own_st st39 ?_
        show own_Go _ _ _ _ (T39.setTop (mkF m 125 #[.val (.int u0), .val (.int u1), .val (.int u2), .val (.int u3), .val (.int (3 : Int32)), .val (.ref b30), .val (.int u3)] [(.int (own_la3 u1 u2 u3))]))
        refine own_st (fun _ k => XS.iload X39.here hx rfl (hb hby at_125) rfl k) ?_
        show own_Go _ _ _ _ (T39.setTop (mkF m 127 #[.val (.int u0), .val (.int u1), .val (.int u2), .val (.int u3), .val (.int (3 : Int32)), .val (.ref b30), .val (.int u3)] [(.int u3), (.int (own_la3 u1 u2 u3))]))
        refine own_st (fun _ k => XS.icmpNo X39.here hx rfl (hb hby at_127) rfl (teq (by
            have z0 := hc34; have z1 := hc38; unfold own_la3
            simp only [← Int32.toInt_inj, Int32.lt_iff_toInt_lt, own_mxi, Int32.reduceToInt] at *
            have r1 := rng32 u1
            have r2 := rng32 u2
            have r3 := rng32 u3
            (repeat' split) <;> omega)).2 k) ?_
        show own_Go _ _ _ _ (T39.setTop (mkF m 130 #[.val (.int u0), .val (.int u1), .val (.int u2), .val (.int u3), .val (.int (3 : Int32)), .val (.ref b30), .val (.int u3)] []))
        refine own_st (fun _ k => XS.iconst X39.here hx rfl (hb hby at_130) k) ?_
        show own_Go _ _ _ _ (T39.setTop (mkF m 131 #[.val (.int u0), .val (.int u1), .val (.int u2), .val (.int u3), .val (.int (3 : Int32)), .val (.ref b30), .val (.int u3)] [(.int (1 : Int32))]))
        refine own_st (fun _ k => XS.goto X39.here hx rfl (pc0 := 131) (pc' := 135) rfl (hb hby at_131) (by decide) (by decide) k) ?_
        show own_Go _ _ _ _ (T39.setTop (mkF m 135 #[.val (.int u0), .val (.int u1), .val (.int u2), .val (.int u3), .val (.int (3 : Int32)), .val (.ref b30), .val (.int u3)] [(.int (1 : Int32))]))
        obtain ⟨fs, hr, hrun, hended, hW, hsame⟩ := X39.leave (v := some (.int (1 : Int32))) (fun h => by rw [Bd.returns] at h; cases h)
        refine own_out (retN X39 hx (t := .boolean) Bd.returns (by simp) (hb hby at_135) hr) ⟨hrun, hended, _, _, rfl, ?_, ⟨_, rfl⟩, hW, hsame.mono (by decide) (by decide)⟩
        show Q0 Z u0 u1 u2 u3 h0 n0 _ T39.heap _
        exact ⟨rfl, N39⟩
      · skip
        refine own_st (fun _ k => XS.icmpYes X33.here hx rfl (pc0 := 114) (pc' := 120) rfl (hb hby at_114) rfl (flt hc38).2.2.2 (by decide) (by decide) k) ?_
        show own_Go _ _ _ _ (T33.setTop (mkF m 120 #[.val (.int u0), .val (.int u1), .val (.int u2), .val (.int u3), .val (.int (3 : Int32)), .val (.ref b30), .val (.int u1)] []))
        refine own_st (fun _ k => XS.aload X33.here hx rfl (hb hby at_120) rfl rfl k) ?_
        show own_Go _ _ _ _ (T33.setTop (mkF m 122 #[.val (.int u0), .val (.int u1), .val (.int u2), .val (.int u3), .val (.int (3 : Int32)), .val (.ref b30), .val (.int u1)] [(.ref b30)]))
        obtain ⟨_, _, ⟨T40, L40, k40, n40⟩, -, X40, ⟨Lc40, hQ40, l40, y40, z40⟩, st40⟩ := Jvm.LawKit.callS X33 hx (y := (⟨"com/example/barred_owl/barredowl/Representation", "largest", "([I)I"⟩ : MethodName)) hown (mvT hZ (hw _ (List.mem_of_getElem? (i := 2) rfl))) (mvT hZ (hw _ (List.mem_of_getElem? (i := 3) rfl))) (mvT hZ (hw _ (List.mem_of_getElem? (i := 4) rfl))) (mvT hZ (hw _ (List.mem_of_getElem? (i := 5) rfl))) (by decide) (backOf (W := 0) (rm1_3 l Z a0 hw [] b30 k30 u1 u2 u3 h33 n0 Z33 V33') hZ (hw _ (List.mem_of_getElem? (i := 5) rfl)) (hw _ (List.mem_of_getElem? (i := 4) rfl)) (by decide) (by decide)) (g := (mkF m 122 #[.val (.int u0), .val (.int u1), .val (.int u2), .val (.int u3), .val (.int (3 : Int32)), .val (.ref b30), .val (.int u1)] [(.ref b30)])) rfl (by rw [hml]; rfl) (argsL := [(.ref b30)]) (rest := []) (lenOf own_pd1 rfl) rfl (by show 2 * 0 + _ ≤ _; exact Nat.le_of_eq rfl) (hb hby at_122) (fun _ _ => ⟨rfl, e33, (by decide : 1 + 0 ≤ _), (by decide : 3 + 0 ≤ _)⟩)
        dsimp only [Pt.U, Pt.locs, Pt.cells, Pt.slots] at X40 l40 y40 z40 st40 hQ40
        subst l40 y40 z40
        obtain ⟨rfl, Nq40, eq40⟩ := hQ40
        have N40 := Fr.app N33 Nq40
        refine own_st st40 ?_
        show own_Go _ _ _ _ (T40.setTop (mkF m 125 #[.val (.int u0), .val (.int u1), .val (.int u2), .val (.int u3), .val (.int (3 : Int32)), .val (.ref b30), .val (.int u1)] [(.int (own_la3 u1 u2 u3))]))
        refine own_st (fun _ k => XS.iload X40.here hx rfl (hb hby at_125) rfl k) ?_
        show own_Go _ _ _ _ (T40.setTop (mkF m 127 #[.val (.int u0), .val (.int u1), .val (.int u2), .val (.int u3), .val (.int (3 : Int32)), .val (.ref b30), .val (.int u1)] [(.int u1), (.int (own_la3 u1 u2 u3))]))
        refine own_st (fun _ k => XS.icmpNo X40.here hx rfl (hb hby at_127) rfl (teq (by
            have z0 := hc34; have z1 := hc38; unfold own_la3
            simp only [← Int32.toInt_inj, Int32.lt_iff_toInt_lt, own_mxi, Int32.reduceToInt] at *
            have r1 := rng32 u1
            have r2 := rng32 u2
            have r3 := rng32 u3
            (repeat' split) <;> omega)).2 k) ?_
        show own_Go _ _ _ _ (T40.setTop (mkF m 130 #[.val (.int u0), .val (.int u1), .val (.int u2), .val (.int u3), .val (.int (3 : Int32)), .val (.ref b30), .val (.int u1)] []))
        refine own_st (fun _ k => XS.iconst X40.here hx rfl (hb hby at_130) k) ?_
        show own_Go _ _ _ _ (T40.setTop (mkF m 131 #[.val (.int u0), .val (.int u1), .val (.int u2), .val (.int u3), .val (.int (3 : Int32)), .val (.ref b30), .val (.int u1)] [(.int (1 : Int32))]))
        refine own_st (fun _ k => XS.goto X40.here hx rfl (pc0 := 131) (pc' := 135) rfl (hb hby at_131) (by decide) (by decide) k) ?_
        show own_Go _ _ _ _ (T40.setTop (mkF m 135 #[.val (.int u0), .val (.int u1), .val (.int u2), .val (.int u3), .val (.int (3 : Int32)), .val (.ref b30), .val (.int u1)] [(.int (1 : Int32))]))
        obtain ⟨fs, hr, hrun, hended, hW, hsame⟩ := X40.leave (v := some (.int (1 : Int32))) (fun h => by rw [Bd.returns] at h; cases h)
        refine own_out (retN X40 hx (t := .boolean) Bd.returns (by simp) (hb hby at_135) hr) ⟨hrun, hended, _, _, rfl, ?_, ⟨_, rfl⟩, hW, hsame.mono (by decide) (by decide)⟩
        show Q0 Z u0 u1 u2 u3 h0 n0 _ T40.heap _
        exact ⟨rfl, N40⟩
set_option maxRecDepth 65536 in
set_option maxHeartbeats 40000000 in
theorem comes_1 {Post : Tables → Env → Array Value → State → Outcome → State → Prop} (hpost : ∀ tb e args s v u, (limb_1_1.after args s (.returned v) u = true ∧ limb_1_2.after args s (.returned v) u = true ∧ True) → FrameEnd s (.returned v) u (Jvm.fieldLocs frame_1_writes args s ++ Jvm.arrayLocs frame_1_arrays args s ++ Jvm.staticLocs frame_1_statics s) 16 128 → Post tb e args s (.returned v) u) :
    ArmFor flags0 classFile x code maxLocals ret World_1 tables_1 room_1 Calls_1 rest_1 Pre_1 Post := by
  intro l hfl _ _ p e ha hc hk s m args below hf hA hF happ hP
  obtain ⟨hcalls, hrest, hpre⟩ := hP
  obtain ⟨-, -, -, hnamed, -, -, -, hat⟩ := (Spec.applies_iff hf).mp happ
  obtain ⟨hg, hn⟩ := and_e (Cond.before_iff.mp (show (Jvm.Cond.and given_1 narrow_1).before args s = true from hpre))
  obtain ⟨h1, h2⟩ := and_e hg
  obtain ⟨ha0, h2⟩ := and_e h2
  obtain ⟨ha1, h2⟩ := and_e h2
  obtain ⟨ha2, h2⟩ := and_e h2
  have ha3 := h2
  obtain ⟨w0, w1, w2, w3, rfl⟩ : ∃ w0 w1 w2 w3 : Value, args = #[w0, w1, w2, w3] := by
    have hs : args.size = 4 := by simpa [Cond.value, given_1] using h1
    obtain ⟨L⟩ := args
    match L, hs with
    | [w0, w1, w2, w3], _ => exact ⟨w0, w1, w2, w3, rfl⟩
  have hw := fun d (hd : d ∈ tables_1) => atoms_spec (ws := Jvm.Cond.code x code maxLocals ret :: tables_1) hat d (List.mem_cons_of_mem _ hd)
  obtain ⟨i0, ei0⟩ := is_v ha0
  obtain rfl : w0 = (.int i0) := Option.some.inj ei0
  obtain ⟨i1, ei1⟩ := is_v ha1
  obtain rfl : w1 = (.int i1) := Option.some.inj ei1
  obtain ⟨i2, ei2⟩ := is_v ha2
  obtain rfl : w2 = (.int i2) := Option.some.inj ei2
  obtain ⟨i3, ei3⟩ := is_v ha3
  obtain rfl : w3 = (.int i3) := Option.some.inj ei3
  obtain ⟨n, o, h1, h2, h3, _, L, rfl, ⟨rfl, N⟩, hq⟩ := rm0 l s _ hw tables_1 i0 i1 i2 i3 s.heap s.heap.size (Nat.le_refl _)  p e ha hc hk s m _ below hf ((Spec.applies_iff_loose hf).mp happ).1 ⟨rfl, State.Warmed39.refl s, rfl⟩ trivial
  refine ⟨n, _, h1, h2, h3, hpost _ _ _ _ _ _ ⟨Cond.after_iff.mpr rfl, Cond.after_iff.mpr (eq_i res_at (Term.int_eval (1)) rfl), trivial⟩ ⟨hq.1, hq.2.1, (hq.2.2.sift fun y hy => Or.inr (N y hy)).mono (by decide) (by decide)⟩⟩
theorem main_1_1 : Claimed_1_1 := comes_1 fun _ _ _ _ _ _ h hF => ⟨h.1, hF⟩
theorem main_1_2 : Claimed_1_2 := comes_1 fun _ _ _ _ _ _ h hF => ⟨h.2.1, hF⟩
end Jvm.Pilot.@@N@@
namespace Jvm.Pilot.@@N@@
open Jvm Jvm.ClassFile Sem Op Lib Jvm.Free Jvm.Stand Jvm.Pilot.@@N@@.Jvm.D
/-! MADE BY PROGRAM (witnessworld.py) out of the Statement's table words and the real class files: 10 classes; the members and pool entries that the words name. The judged class is class 1, her method 1. -/
namespace start1
open Jvm.ClassFile
def u (s : String) : CpInfo := .utf8 (stringToUtf16 s)
/-- a pool by its gaps: so many unusable entries, then the entry; so many at the end -/
def gap : Nat → List CpInfo → List CpInfo
  | 0, r => r
  | n + 1, r => .unusable :: gap n r
def poolList (es : List (Nat × CpInfo)) (last : Nat) : List CpInfo := es.foldr (fun e r => gap e.1 (e.2 :: r)) (gap last [])
def pool (es : List (Nat × CpInfo)) (last : Nat) : Array CpInfo := ⟨poolList es last⟩
def fileOf (pool : Array CpInfo) (this : Nat) (attrs : Array Attribute := #[]) (ms : Array MethodInfo := #[]) (fl : Nat := 33) (sup : Nat := 0) (ifs : Array Nat := #[]) (fds : Array FieldInfo := #[]) : ClassFile where
  minorVersion := 0
  majorVersion := 65
  constantPool := pool
  accessFlags := fl
  thisClass := this
  superClass := sup
  interfaces := ifs
  fields := fds
  methods := ms
  attributes := attrs
def plain (name : String) (sup : Option ClassId) : Class where
  name := name
  kind := .ordinary
  loader := none
  accessFlags := 33
  super := sup
  interfaces := #[]
  cf := none
  fields := #[]
  methods := #[]
  instanceTypes := #[]
  staticTypes := #[]
  resolved := #[]
  callSites := []
  init := .initialized
  statics := none
  mirror := none

def pool0 : Array CpInfo := pool [(5, u "<init>"), (0, u "()V"), (1, .class_ 10), (1, u "java/lang/Object")] 113

def k0m0 : Method := { name := "<init>", desc := "()V", sig := { parameters := [], returnType := none }, accessFlags := 1, code := none }
/-- java/lang/Object -/
def k0 : Class := { plain "java/lang/Object" none with
  accessFlags := 33
  interfaces := #[]
  cf := some (fileOf pool0 8 #[] #[{ accessFlags := 1, nameIndex := 5, descriptorIndex := 6, attributes := #[] }] 33 0 #[] #[])
  fields := #[]
  methods := #[k0m0]
  instanceTypes := #[]
  staticTypes := #[]
  resolved := Array.replicate 124 none
  statics := none }

def pool1 : Array CpInfo := pool [(2, .class_ 4), (1, u "java/lang/Object"), (0, u "<init>"), (0, u "()V"), (2, .integer 2147483648), (0, .methodref 11 12), (0, .class_ 13), (0, .nameAndType 14 15), (0, u "com/example/barred_owl/barredowl/Representation"), (0, u "largest"), (0, u "([I)I"), (0, .class_ 17), (0, u "com/example/barred_owl/barredowl/RepresentationLargestPinLaw"), (2, u "law"), (0, u "(IIII)Z")] 5

def k1m0 : Method := { name := "<init>", desc := "()V", sig := { parameters := [], returnType := none }, accessFlags := 1, code := none }
def k1c1 : Code := { maxStack := 4, maxLocals := 7, code := code, exceptionTable := #[], attributes := #[] }
def k1m1 : Method := { name := "law", desc := "(IIII)Z", sig := { parameters := [.int, .int, .int, .int], returnType := some .boolean }, accessFlags := 9, code := some k1c1 }
/-- com/example/barred_owl/barredowl/RepresentationLargestPinLaw -/
def k1 : Class := { plain "com/example/barred_owl/barredowl/RepresentationLargestPinLaw" (some 0) with
  accessFlags := 49
  interfaces := #[]
  cf := some (fileOf pool1 16 #[] #[{ accessFlags := 1, nameIndex := 5, descriptorIndex := 6, attributes := #[] }, { accessFlags := 9, nameIndex := 20, descriptorIndex := 21, attributes := #[] }] 49 2 #[] #[])
  fields := #[]
  methods := #[k1m0, k1m1]
  instanceTypes := #[]
  staticTypes := #[]
  resolved := Array.replicate 27 none
  statics := none }

def pool2 : Array CpInfo := pool [(2, .class_ 4), (1, u "java/lang/Object"), (3, u "graph"), (9, .class_ 20), (1, u "com/example/barred_owl/barredowl/Representation"), (0, u "Lcom/example/barred_owl/barredowl/Graph;"), (17, u "[I"), (4, u "segmentEnds"), (77, .class_ 124), (1, u "java/lang/Math"), (1, u "(II)I"), (0, .methodref 122 128), (0, .nameAndType 129 126), (0, u "max"), (3, .integer 2147483648), (18, u "([I)I"), (0, u "largest")] 42

def k2c0 : Code := { maxStack := 2, maxLocals := 6, code := prog_55_method_21_code, exceptionTable := #[], attributes := #[] }
def k2m0 : Method := { name := "largest", desc := "([I)I", sig := { parameters := [(.array .int)], returnType := some .int }, accessFlags := 8, code := some k2c0 }
/-- com/example/barred_owl/barredowl/Representation -/
def k2 : Class := { plain "com/example/barred_owl/barredowl/Representation" (some 0) with
  accessFlags := 1057
  interfaces := #[]
  cf := some (fileOf pool2 18 #[] #[{ accessFlags := 8, nameIndex := 153, descriptorIndex := 152, attributes := #[] }] 1057 2 #[] #[{ accessFlags := 18, nameIndex := 8, descriptorIndex := 21, attributes := #[] }, { accessFlags := 18, nameIndex := 44, descriptorIndex := 39, attributes := #[] }])
  fields := #[{ name := "graph", type := (.object "com/example/barred_owl/barredowl/Graph"), accessFlags := 18, slot := 0, constantValue := 0 }, { name := "segmentEnds", type := (.array .int), accessFlags := 18, slot := 1, constantValue := 0 }]
  methods := #[k2m0]
  instanceTypes := #[(.object "com/example/barred_owl/barredowl/Graph"), (.array .int)]
  staticTypes := #[]
  resolved := Array.replicate 196 none
  statics := none }

def pool3 : Array CpInfo := pool [(1, .class_ 2), (0, u "java/lang/Math"), (1, .class_ 6), (1, u "java/lang/Object"), (0, u "<init>"), (0, u "()V"), (89, .class_ 100), (1, u "java/lang/Math$RandomNumberGeneratorHolder"), (71, u "negativeZeroFloatBits"), (0, u "J"), (2, u "negativeZeroDoubleBits"), (21, u "max"), (46, u "$assertionsDisabled"), (0, u "Z"), (88, u "(II)I"), (2, u "twoToTheDoubleScaleDown"), (0, u "D"), (4, u "twoToTheDoubleScaleUp"), (9, u "E"), (3, u "PI"), (2, u "TAU"), (2, u "DEGREES_TO_RADIANS"), (0, u "RADIANS_TO_DEGREES")] 94

def k3m0 : Method := { name := "<init>", desc := "()V", sig := { parameters := [], returnType := none }, accessFlags := 2, code := none }
def k3c1 : Code := { maxStack := 2, maxLocals := 2, code := jdk_29_method_65_code, exceptionTable := #[], attributes := #[] }
def k3m1 : Method := { name := "max", desc := "(II)I", sig := { parameters := [.int, .int], returnType := some .int }, accessFlags := 9, code := some k3c1 }
/-- java/lang/Math -/
def k3 : Class := { plain "java/lang/Math" (some 0) with
  accessFlags := 49
  interfaces := #[]
  cf := some (fileOf pool3 1 #[.nestMembers #[98]] #[{ accessFlags := 2, nameIndex := 7, descriptorIndex := 8, attributes := #[] }, { accessFlags := 9, nameIndex := 198, descriptorIndex := 335, attributes := #[] }] 49 4 #[] #[{ accessFlags := 25, nameIndex := 354, descriptorIndex := 339, attributes := #[] }, { accessFlags := 25, nameIndex := 358, descriptorIndex := 339, attributes := #[] }, { accessFlags := 25, nameIndex := 361, descriptorIndex := 339, attributes := #[] }, { accessFlags := 26, nameIndex := 364, descriptorIndex := 339, attributes := #[] }, { accessFlags := 26, nameIndex := 365, descriptorIndex := 339, attributes := #[] }, { accessFlags := 26, nameIndex := 172, descriptorIndex := 173, attributes := #[] }, { accessFlags := 26, nameIndex := 176, descriptorIndex := 173, attributes := #[] }, { accessFlags := 8, nameIndex := 344, descriptorIndex := 339, attributes := #[] }, { accessFlags := 8, nameIndex := 338, descriptorIndex := 339, attributes := #[] }, { accessFlags := 4120, nameIndex := 245, descriptorIndex := 246, attributes := #[] }])
  fields := #[{ name := "E", type := .double, accessFlags := 25, slot := 0, constantValue := 0 }, { name := "PI", type := .double, accessFlags := 25, slot := 1, constantValue := 0 }, { name := "TAU", type := .double, accessFlags := 25, slot := 2, constantValue := 0 }, { name := "DEGREES_TO_RADIANS", type := .double, accessFlags := 26, slot := 3, constantValue := 0 }, { name := "RADIANS_TO_DEGREES", type := .double, accessFlags := 26, slot := 4, constantValue := 0 }, { name := "negativeZeroFloatBits", type := .long, accessFlags := 26, slot := 5, constantValue := 0 }, { name := "negativeZeroDoubleBits", type := .long, accessFlags := 26, slot := 6, constantValue := 0 }, { name := "twoToTheDoubleScaleUp", type := .double, accessFlags := 8, slot := 7, constantValue := 0 }, { name := "twoToTheDoubleScaleDown", type := .double, accessFlags := 8, slot := 8, constantValue := 0 }, { name := "$assertionsDisabled", type := .boolean, accessFlags := 4120, slot := 9, constantValue := 0 }]
  methods := #[k3m0, k3m1]
  instanceTypes := #[]
  staticTypes := #[.double, .double, .double, .double, .double, .long, .long, .double, .double, .boolean]
  resolved := Array.replicate 460 none
  statics := none }

def pool4 : Array CpInfo := pool [(1, u "java/lang/Cloneable"), (0, .class_ 1), (0, u "java/lang/Object"), (0, .class_ 3)] 3

/-- java/lang/Cloneable -/
def k4 : Class := { plain "java/lang/Cloneable" (some 0) with
  accessFlags := 1537
  interfaces := #[]
  cf := some (fileOf pool4 2 #[] #[] 1537 4 #[] #[])
  fields := #[]
  methods := #[]
  instanceTypes := #[]
  staticTypes := #[]
  resolved := Array.replicate 8 none
  statics := none }

def pool5 : Array CpInfo := pool [(1, u "java/io/Serializable"), (0, .class_ 1), (0, u "java/lang/Object"), (0, .class_ 3)] 3

/-- java/io/Serializable -/
def k5 : Class := { plain "java/io/Serializable" (some 0) with
  accessFlags := 1537
  interfaces := #[]
  cf := some (fileOf pool5 2 #[] #[] 1537 4 #[] #[])
  fields := #[]
  methods := #[]
  instanceTypes := #[]
  staticTypes := #[]
  resolved := Array.replicate 8 none
  statics := none }

/-- the primitive byte -/
def k6 : Class := { plain "byte" none with kind := .primitive 'B', accessFlags := 0x411 }
/-- [B -/
def k7 : Class := { plain "[B" (some 0) with kind := .array 6 .byte, interfaces := #[4, 5], accessFlags := 1041 }

/-- the primitive int -/
def k8 : Class := { plain "int" none with kind := .primitive 'I', accessFlags := 0x411 }
/-- [I -/
def k9 : Class := { plain "[I" (some 0) with kind := .array 8 .int, interfaces := #[4, 5], accessFlags := 1041 }

def heap : Heap := #[]
def classes : Array Class := #[k0, k1, k2, k3, k4, k5, k6, k7, k8, k9]
def interned : List (Array UInt16 × Addr) := []
def slotsUsed : Nat := 0
def theMethod : MethodId := ⟨1, 1⟩
def args0 : Array Value := #[.int 5, .int 5, .int 5, .int 5]
def aboutOver (below : List Frame) : State where
  vm := { classes := classes, interned := interned.toArray }
  heap := heap
  slotsUsed := slotsUsed
  threads := #[{ frames := .invoking theMethod args0 :: below }]
def below0 : List Frame := [.native { method := ⟨0, 0⟩, args := #[] }]
def about1 : State := aboutOver below0
def p0 : Program := .bare "" "" ""
def e0 : Env := launch0.env 0 0 0
theorem w_frames : about1.frames = Frame.invoking theMethod args0 :: below0 := rfl
set_option maxRecDepth 65536 in
theorem w_args : argsFit about1.vm theMethod args0 = true := by decide +kernel
set_option maxRecDepth 65536 in
theorem w_heap : heapFits about1 = true := by decide +kernel
set_option maxRecDepth 65536 in
theorem w_runnable : about1.curStatus? = some .runnable := by decide +kernel
set_option maxRecDepth 65536 in
theorem w_alone : about1.alone = true := by decide +kernel
set_option maxRecDepth 65536 in
theorem w_named : about1.methodNamed? x = some theMethod := by decide +kernel
set_option maxRecDepth 65536 in
theorem w_hears : about1.hears theMethod below0 = true := by decide +kernel
set_option maxRecDepth 65536 in
theorem w_ripe : about1.ripe theMethod args0 below0 = true := by decide +kernel
theorem w_running : about1.status = .running := rfl
set_option maxRecDepth 65536 in
theorem w_room : about1.hasRoom e0.platform room_1 = true :=
  launch0.hasRoom_least _ room_1 (by decide +kernel) (by decide +kernel) (by decide +kernel) (by decide +kernel) (by decide +kernel) (by decide +kernel)
theorem allAtoms_all (ts : List Jvm.Cond) (a : Array Jvm.Value) (st : Jvm.State) : (allAtoms ts).before a st = ts.all (fun c => c.before a st) := by
  induction ts with
  | nil => rfl
  | cons c t ih =>
    show (Jvm.Cond.and c (allAtoms t)).before a st = _
    rw [Jvm.Cond.before_and, ih, List.all_cons]
def words1 : List Jvm.Cond := Jvm.Cond.code x code maxLocals ret :: tables_1
/-- a 'code' word, met by the world's own term for the bytes: nothing is compared byte by byte -/
theorem code_word {y : MethodName} {bytes : ByteArray} {mx : Nat} {rt : Option FieldType} {a : Array Value} {s : State} {m : MethodId} {meth : Method} {c : Code} (h1 : s.methodNamed? y = some m) (h2 : s.vm.method? m = some meth) (h3 : meth.code = some c) (h4 : c.code = bytes)
    (h5 : (c.maxLocals == mx && c.exceptionTable.isEmpty && decide (c.maxStack ≤ mostOperands) && decide (meth.sig.returnType = rt) && !meth.locks && decide (parseMethodDescriptor y.desc = some meth.sig)) = true) : (Jvm.Cond.code y bytes mx rt).before a s = true := by
  simp only [Bool.and_eq_true, beq_iff_eq, Bool.not_eq_true', decide_eq_true_eq] at h5
  obtain ⟨⟨⟨⟨⟨g1, g2⟩, g3⟩, g4⟩, g5⟩, g6⟩ := h5
  simp [Cond.before, Cond.holds, Cond.value, h1, h2, h3, h4, g1, g2, g3, g4, g5, g6]
def isCode : Jvm.Cond → Bool
  | .code _ _ _ _ => true
  | _ => false
theorem all_split {L : List Jvm.Cond} {P : Jvm.Cond → Bool} (h1 : L.all (fun c => isCode c || P c) = true) (h2 : ∀ c ∈ L.filter isCode, P c = true) : L.all P = true := by
  refine List.all_eq_true.mpr fun c hc => ?_
  have h := List.all_eq_true.mp h1 c hc
  rcases Bool.eq_false_or_eq_true (isCode c) with hi | hi
  · exact h2 c (List.mem_filter.mpr ⟨hc, hi⟩)
  · simpa [hi] using h
set_option maxRecDepth 65536 in
theorem w_c0 : (Jvm.Cond.code x code maxLocals ret).before args0 about1 = true := code_word (m := ⟨1, 1⟩) (meth := k1m1) (c := k1c1) (by decide +kernel) rfl rfl rfl (by decide +kernel)
set_option maxRecDepth 65536 in
theorem w_c1 : (Jvm.Cond.code ({ cls := "com/example/barred_owl/barredowl/Representation", name := "largest", desc := "([I)I" } : Jvm.MethodName) prog_55_method_21_code (6 : Nat) (Option.some Jvm.ClassFile.FieldType.int)).before args0 about1 = true := code_word (m := ⟨2, 0⟩) (meth := k2m0) (c := k2c0) (by decide +kernel) rfl rfl rfl (by decide +kernel)
set_option maxRecDepth 65536 in
theorem w_c2 : (Jvm.Cond.code ({ cls := "java/lang/Math", name := "max", desc := "(II)I" } : Jvm.MethodName) jdk_29_method_65_code (2 : Nat) (Option.some Jvm.ClassFile.FieldType.int)).before args0 about1 = true := code_word (m := ⟨3, 1⟩) (meth := k3m1) (c := k3c1) (by decide +kernel) rfl rfl rfl (by decide +kernel)
def codes1 : List Jvm.Cond := [Jvm.Cond.code x code maxLocals ret, Jvm.Cond.code ({ cls := "com/example/barred_owl/barredowl/Representation", name := "largest", desc := "([I)I" } : Jvm.MethodName) prog_55_method_21_code (6 : Nat) (Option.some Jvm.ClassFile.FieldType.int), Jvm.Cond.code ({ cls := "java/lang/Math", name := "max", desc := "(II)I" } : Jvm.MethodName) jdk_29_method_65_code (2 : Nat) (Option.some Jvm.ClassFile.FieldType.int)]
set_option maxRecDepth 65536 in
theorem codes_eq : words1.filter isCode = codes1 := rfl
theorem w_codes : ∀ c ∈ words1.filter isCode, c.before args0 about1 = true := by
  rw [codes_eq]
  intro c hc
  simp only [codes1, List.mem_cons, List.not_mem_nil, or_false] at hc
  rcases hc with rfl | rfl | rfl
  · exact w_c0
  · exact w_c1
  · exact w_c2
set_option maxRecDepth 65536 in
theorem w_t1 : words1.all (fun c => isCode c || c.before args0 about1) = true := by decide +kernel
theorem w_tables : (allAtoms (Jvm.Cond.code x code maxLocals ret :: tables_1)).before args0 about1 = true := by
  rw [allAtoms_all]
  show words1.all (fun c => c.before args0 about1) = true
  refine all_split ?_ w_codes
  rw [w_t1]
set_option maxRecDepth 65536 in
theorem w_case : (Jvm.Cond.and given_1 narrow_1).before args0 about1 = true := by decide +kernel
theorem w_applies : (headSpec (Jvm.Cond.code x code maxLocals ret :: tables_1) room_1).applies x e0.platform about1 = true :=
  (Spec.applies_iff w_frames).mpr ⟨w_running, w_runnable, w_alone, w_named, w_hears, w_ripe, w_room, w_tables⟩
theorem atStart : AtStart classFile x code maxLocals ret World_1 tables_1 room_1 Calls_1 rest_1 Pre_1 launch0 p0 e0 about1 theMethod args0 below0 :=
  ⟨lists_1, trivial, launch0.admits_env _ _ _, launch0.least_env, fairChoices_fair.cas, fairChoices_fair.clock, w_frames, w_args, w_heap, w_applies, trivial, trivial, w_case⟩
end start1
theorem witness_1 : WitnessClaimed_1 := ⟨start1.p0, start1.e0, start1.about1, start1.theMethod, start1.args0, start1.below0, start1.atStart⟩
end Jvm.Pilot.@@N@@
