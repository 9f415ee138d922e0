import JvmDerived
import JvmDerived.Pilot.@@N@@Statement
import JvmDerived.Pilot.@@N@@Code
set_option linter.unusedVariables false
set_option linter.unusedSimpArgs false
namespace Jvm.Pilot.@@N@@
open Jvm Jvm.ClassFile Sem Op Lib Jvm.Free Jvm.Stand Jvm.LawKit Jvm.RoadKit Bundle Jvm.Pilot.@@N@@.Jvm.D
def own_Go (tb : Tables) (e : Env) (below : List Frame) (P : State → Outcome → Prop) (A : State) : Prop := ∃ s₂ o, Steps tb e below A s₂ ∧ P s₂ o
theorem own_in {tb : Tables} {e : Env} {below : List Frame} {P : State → Outcome → Prop} {A : State} (h : own_Go tb e below P A) : ∃ s₂ o, Steps tb e below A s₂ ∧ P s₂ o := h
theorem own_st {tb : Tables} {e : Env} {below : List Frame} {P : State → Outcome → Prop} {A B : State} (h : ∀ t, Steps tb e below B t → Steps tb e below A t) (k : own_Go tb e below P B) : own_Go tb e below P A := by
  obtain ⟨s₂, o, h1, h2⟩ := k
  exact ⟨s₂, o, h _ h1, h2⟩
theorem own_tr {tb : Tables} {e : Env} {below : List Frame} {P : State → Outcome → Prop} {A B : State} (h : Steps tb e below A B) (k : own_Go tb e below P B) : own_Go tb e below P A := by
  obtain ⟨s₂, o, h1, h2⟩ := k
  exact ⟨s₂, o, h.trans h1, h2⟩
theorem own_out {tb : Tables} {e : Env} {below : List Frame} {P : State → Outcome → Prop} {A B : State} {o : Outcome} (h : Steps tb e below A B) (k : P B o) : own_Go tb e below P A := ⟨B, o, h, k⟩
theorem own_join {ι : Type} {tb : Tables} {e : Env} {below : List Frame} {P : State → Outcome → Prop} {A : State} (B : ι → State) (K : ι → Prop) (hJ : ∀ b, K b → own_Go tb e below P (B b)) (h : (∀ b, K b → own_Go tb e below P (B b)) → own_Go tb e below P A) : own_Go tb e below P A := h hJ
section Own
variable {p : Program} {l : Launch} {e : Env} {R : Room} {s : State} {m : MethodId} {args : Array Value} {below : List Frame} {meth : Method} {c : Code} {T : State} {locs : List Loc} {cells slots : Nat}
theorem own_retI (X : Stand p l e R s m args below meth c T locs cells slots) (hx : p.tables.exec = Jvm.exec) {pc : Nat} {Ls : Array Slot} {z : Int32} {rest : List Value} (hret : meth.sig.returnType = some .int) (hd : decode c.code pc = .ok (.ireturn, 1)) {fs : List Frame}
    (hl : ∀ (f : JFrame) (acts : List Action), f.method = m → f.locked = none → f.entered = [] → (doReturn e (T.setTop f) acts (some (.int z))).1 = T.setFrames fs) : Steps p.tables e below (T.setTop (mkF m pc Ls (.int z :: rest))) (T.setFrames fs) := by
  have hm' : T.vm.method? m = some meth := X.method'
  have hn : narrow .int (.int z) = .int z := rfl
  show Steps p.tables e below (T.setTop { method := m, pc := pc, locals := Ls, stack := _ :: rest, locked := none }) _
  jvm_step X.here [X.here.top, hx, hd, hm', hret, hn]
  first | (intro acts; rw [hl _ acts rfl rfl rfl]) | rw [hl _ _ rfl rfl rfl]
  exact Steps.refl _
end Own
theorem own_narB (x : Int32) : x.toInt8.toInt32.toInt8.toInt32 = x.toInt8.toInt32 := by simp
theorem own_m4 (u : Int32) : (u &&& (3 : Int32)) = (0 : Int32) ∨ (u &&& (3 : Int32)) = (1 : Int32) ∨ (u &&& (3 : Int32)) = (2 : Int32) ∨ (u &&& (3 : Int32)) = (3 : Int32) := by
  have m := c_mask u 3 2 (by decide) (by decide)
  simp only [← Int32.toInt_inj, Int32.reduceToInt]
  omega
theorem own_m6 (u : Int32) : ((u &&& (2147483647 : Int32)) - ((u &&& (2147483647 : Int32)) / (6 : Int32)) * (6 : Int32)) = (0 : Int32) ∨ ((u &&& (2147483647 : Int32)) - ((u &&& (2147483647 : Int32)) / (6 : Int32)) * (6 : Int32)) = (1 : Int32) ∨ ((u &&& (2147483647 : Int32)) - ((u &&& (2147483647 : Int32)) / (6 : Int32)) * (6 : Int32)) = (2 : Int32) ∨ ((u &&& (2147483647 : Int32)) - ((u &&& (2147483647 : Int32)) / (6 : Int32)) * (6 : Int32)) = (3 : Int32) ∨ ((u &&& (2147483647 : Int32)) - ((u &&& (2147483647 : Int32)) / (6 : Int32)) * (6 : Int32)) = (4 : Int32) ∨ ((u &&& (2147483647 : Int32)) - ((u &&& (2147483647 : Int32)) / (6 : Int32)) * (6 : Int32)) = (5 : Int32) := by
  have m := c_mask u 2147483647 31 (by decide) (by decide)
  generalize (u &&& (2147483647 : Int32)) = v at *
  have r := rng32 v
  have d := (c_idiv v 6 6 rfl (by decide)).1 (by omega)
  have h2 := c_imul (v / 6) 6
  have r2 := rng32 ((v / 6) * 6)
  have h3 := c_isub v ((v / 6) * 6)
  have r3 := rng32 (v - (v / 6) * 6)
  simp only [Int32.reduceToInt] at h2
  simp only [← Int32.toInt_inj, Int32.reduceToInt]
  omega
def own_mx (u0 : Int32) (u1 : Int32) : Int32 := (if u0 < u1 then u1 else u0)
theorem d2_0 : decode jdk_29_method_65_code 0 = .ok (.iload_n 0, 1) := by decide +kernel
theorem d2_1 : decode jdk_29_method_65_code 1 = .ok (.iload_n 1, 1) := by decide +kernel
theorem d2_2 : decode jdk_29_method_65_code 2 = .ok (.if_icmp .lt 7, 3) := by decide +kernel
theorem d2_5 : decode jdk_29_method_65_code 5 = .ok (.iload_n 0, 1) := by decide +kernel
theorem d2_6 : decode jdk_29_method_65_code 6 = .ok (.goto 4, 3) := by decide +kernel
theorem d2_9 : decode jdk_29_method_65_code 9 = .ok (.iload_n 1, 1) := by decide +kernel
theorem d2_10 : decode jdk_29_method_65_code 10 = .ok (.ireturn, 1) := by decide +kernel
theorem own_pd0 : parseMethodDescriptor "(II)I" = some ⟨[.int, .int], some .int⟩ := by decide +kernel
def Q2 (Z : State) (u0 : Int32) (u1 : Int32) (h0 : Heap) (n0 : Nat) (v : Option Value) (h : Heap) (L : List Loc) : Prop := v = some (.int (own_mx u0 u1)) ∧ Fr n0 L ∧ h = h0
theorem ef_2 (m : MethodId) (x0 : Int32) (x1 : Int32) : entryFrame m #[(.int x0), (.int x1)] 2 = mkF m 0 #[.val (.int x0), .val (.int x1)] [] := by first | (simp [entryFrame, mkF, argsToLocals, Value.category]; done) | rfl
set_option maxRecDepth 65536 in
set_option maxHeartbeats 40000000 in
theorem rm2 (l : Launch) (Z : State) (a0 : Array Value) (hw : ∀ d ∈ tables_1, d.before a0 Z = true) (ws : List Jvm.Cond) (u0 : Int32) (u1 : Int32) (h0 : Heap) (n0 : Nat) (Z0 : n0 ≤ h0.size)  :
    MetFree l (⟨"java/lang/Math", "max", "(II)I"⟩ : MethodName) (head1 (Jvm.Cond.code (⟨"java/lang/Math", "max", "(II)I"⟩ : MethodName) jdk_29_method_65_code 2 (some .int) :: ws) ({ frames := 0, cells := 0, slots := 0, locals := 0 } : Room)) (fun a U => a = #[(.int u0), (.int u1)] ∧ Z.Warmed39 U.vm ∧ U.heap = h0) (fun _ _ _ _ _ => True) (fun _ U o U' => ∃ v L, o = .returned v ∧ Q2 Z u0 u1 h0 n0 v U'.heap L ∧ FrameEnd U o U' L ({ frames := 0, cells := 0, slots := 0, locals := 0 } : Room).cells ({ frames := 0, cells := 0, slots := 0, locals := 0 } : Room).slots) := by
  refine MetFree.of_bodySF (Jvm.Free.JP.mathPlain rfl (by decide)) hisR ?_
  intro p e s m args below meth c s₁ Bd hml0 hP hK
  obtain ⟨rfl, hZ, hh⟩ := hP
  have hx := Bd.exec
  have hby := Bd.bytes
  have hml : c.maxLocals = 2 := hml0
  have hown : s.vm.findClass "java/lang/Math" = some m.cls := findClass_of_methodNamed Bd.named
  have hnm := (name_of_methodNamed Bd.named Bd.method).1
  have X0 : Stand p l e ({ frames := 0, cells := 0, slots := 0, locals := 0 } : Room) s m #[(.int u0), (.int u1)] below meth c s₁ [] 0 0 := Stand.of_body Bd
  have e0 : s₁.heap = h0 := by rw [← hh, Bd.state]; rfl
  have N0 := Fr.nil n0
  refine own_in ?_
  refine own_st (fun _ k => castTop (ef_2 m u0 u1) k) ?_
  have K0 : Keep h0 h0 [] := Keep.refl h0 []
  show own_Go _ _ _ _ (s₁.setTop (mkF m 0 #[.val (.int u0), .val (.int u1)] []))
  refine own_st (fun _ k => XS.iloadN X0.here hx rfl (hb hby d2_0) rfl k) ?_
  show own_Go _ _ _ _ (s₁.setTop (mkF m 1 #[.val (.int u0), .val (.int u1)] [(.int u0)]))
  refine own_st (fun _ k => XS.iloadN X0.here hx rfl (hb hby d2_1) rfl k) ?_
  show own_Go _ _ _ _ (s₁.setTop (mkF m 2 #[.val (.int u0), .val (.int u1)] [(.int u1), (.int u0)]))
  by_cases hc1 : u0 < u1
  · skip
    refine own_st (fun _ k => XS.icmpYes X0.here hx rfl (pc0 := 2) (pc' := 9) rfl (hb hby d2_2) rfl (tlt hc1).1 (by decide) (by decide) k) ?_
    show own_Go _ _ _ _ (s₁.setTop (mkF m 9 #[.val (.int u0), .val (.int u1)] []))
    refine own_st (fun _ k => XS.iloadN X0.here hx rfl (hb hby d2_9) rfl k) ?_
    show own_Go _ _ _ _ (s₁.setTop (mkF m 10 #[.val (.int u0), .val (.int u1)] [(.int u1)]))
    obtain ⟨fs, hr, hrun, hended, hW, hsame⟩ := X0.leave (v := some (.int u1)) (fun h => by rw [Bd.returns] at h; cases h)
    refine own_out (own_retI X0 hx Bd.returns (hb hby d2_10) hr) ⟨hrun, hended, _, _, rfl, ?_, ⟨_, rfl⟩, hW, hsame.mono (by decide) (by decide)⟩
    show Q2 Z u0 u1 h0 n0 _ s₁.heap _
    have hv : own_mx u0 u1 = u1 := by
      unfold own_mx
      rw [if_pos hc1]
    exact ⟨by rw [hv], N0, e0⟩
  · skip
    refine own_st (fun _ k => XS.icmpNo X0.here hx rfl (hb hby d2_2) rfl (flt hc1).1 k) ?_
    show own_Go _ _ _ _ (s₁.setTop (mkF m 5 #[.val (.int u0), .val (.int u1)] []))
    refine own_st (fun _ k => XS.iloadN X0.here hx rfl (hb hby d2_5) rfl k) ?_
    show own_Go _ _ _ _ (s₁.setTop (mkF m 6 #[.val (.int u0), .val (.int u1)] [(.int u0)]))
    refine own_st (fun _ k => XS.goto X0.here hx rfl (pc0 := 6) (pc' := 10) rfl (hb hby d2_6) (by decide) (by decide) k) ?_
    show own_Go _ _ _ _ (s₁.setTop (mkF m 10 #[.val (.int u0), .val (.int u1)] [(.int u0)]))
    obtain ⟨fs, hr, hrun, hended, hW, hsame⟩ := X0.leave (v := some (.int u0)) (fun h => by rw [Bd.returns] at h; cases h)
    refine own_out (own_retI X0 hx Bd.returns (hb hby d2_10) hr) ⟨hrun, hended, _, _, rfl, ?_, ⟨_, rfl⟩, hW, hsame.mono (by decide) (by decide)⟩
    show Q2 Z u0 u1 h0 n0 _ s₁.heap _
    have hv : own_mx u0 u1 = u0 := by
      unfold own_mx
      rw [if_neg hc1]
    exact ⟨by rw [hv], N0, e0⟩
def own_cc0  : Int32 := (0 : Int32)
theorem d1_0 : decode prog_25_method_17_code 0 = .ok (.iconst 0, 1) := by decide +kernel
theorem d1_1 : decode prog_25_method_17_code 1 = .ok (.istore_n 1, 1) := by decide +kernel
theorem d1_2 : decode prog_25_method_17_code 2 = .ok (.aload_n 0, 1) := by decide +kernel
theorem d1_3 : decode prog_25_method_17_code 3 = .ok (.astore_n 2, 1) := by decide +kernel
theorem d1_4 : decode prog_25_method_17_code 4 = .ok (.aload_n 2, 1) := by decide +kernel
theorem d1_5 : decode prog_25_method_17_code 5 = .ok (.arraylength, 1) := by decide +kernel
theorem d1_6 : decode prog_25_method_17_code 6 = .ok (.istore_n 3, 1) := by decide +kernel
theorem d1_7 : decode prog_25_method_17_code 7 = .ok (.iconst 0, 1) := by decide +kernel
theorem d1_8 : decode prog_25_method_17_code 8 = .ok (.istore 4, 2) := by decide +kernel
theorem d1_10 : decode prog_25_method_17_code 10 = .ok (.iload 4, 2) := by decide +kernel
theorem d1_12 : decode prog_25_method_17_code 12 = .ok (.iload_n 3, 1) := by decide +kernel
theorem d1_13 : decode prog_25_method_17_code 13 = .ok (.if_icmp .ge 24, 3) := by decide +kernel
theorem d1_16 : decode prog_25_method_17_code 16 = .ok (.aload_n 2, 1) := by decide +kernel
theorem d1_17 : decode prog_25_method_17_code 17 = .ok (.iload 4, 2) := by decide +kernel
theorem d1_19 : decode prog_25_method_17_code 19 = .ok (.iaload, 1) := by decide +kernel
theorem d1_20 : decode prog_25_method_17_code 20 = .ok (.istore 5, 2) := by decide +kernel
theorem d1_22 : decode prog_25_method_17_code 22 = .ok (.iload_n 1, 1) := by decide +kernel
theorem d1_23 : decode prog_25_method_17_code 23 = .ok (.iload 5, 2) := by decide +kernel
theorem d1_25 : decode prog_25_method_17_code 25 = .ok (.iconst 1, 1) := by decide +kernel
theorem d1_26 : decode prog_25_method_17_code 26 = .ok (.iadd, 1) := by decide +kernel
theorem d1_27 : decode prog_25_method_17_code 27 = .ok (.invokestatic 22, 3) := by decide +kernel
theorem d1_30 : decode prog_25_method_17_code 30 = .ok (.istore_n 1, 1) := by decide +kernel
theorem d1_31 : decode prog_25_method_17_code 31 = .ok (.iinc 4 1, 3) := by decide +kernel
theorem d1_34 : decode prog_25_method_17_code 34 = .ok (.goto (-24), 3) := by decide +kernel
theorem d1_37 : decode prog_25_method_17_code 37 = .ok (.iload_n 1, 1) := by decide +kernel
theorem d1_38 : decode prog_25_method_17_code 38 = .ok (.ireturn, 1) := by decide +kernel
theorem own_pd1 : parseMethodDescriptor "([I)I" = some ⟨[(.array .int)], some .int⟩ := by decide +kernel
theorem own_pn0 : plainName "com/example/barred_owl/barredowl/Embedding" = true := by first | (simp [plainName, overriddenIn]; done) | decide +kernel
def Q1_0 (Z : State) (ar : Addr) (kk : ClassId)  (h0 : Heap) (n0 : Nat) (v : Option Value) (h : Heap) (L : List Loc) : Prop := v = some (.int (own_cc0)) ∧ Fr n0 L ∧ h = h0
theorem ef_1_0 (m : MethodId) (x0 : Addr) : entryFrame m #[(.ref x0)] 6 = mkF m 0 #[.val (.ref x0), .unset, .unset, .unset, .unset, .unset] [] := by first | (simp [entryFrame, mkF, argsToLocals, Value.category]; done) | rfl
set_option maxRecDepth 65536 in
set_option maxHeartbeats 40000000 in
theorem rm1_0 (l : Launch) (Z : State) (a0 : Array Value) (hw : ∀ d ∈ tables_1, d.before a0 Z = true) (ws : List Jvm.Cond) (ar : Addr) (kk : ClassId)  (h0 : Heap) (n0 : Nat) (Z0 : n0 ≤ h0.size) (V_ar : Arv Z h0 ar kk .int (0 : Int32) [] (.int (0 : Int32))) :
    MetFree l (⟨"com/example/barred_owl/barredowl/Embedding", "componentCount", "([I)I"⟩ : MethodName) (head1 (Jvm.Cond.code (⟨"com/example/barred_owl/barredowl/Embedding", "componentCount", "([I)I"⟩ : MethodName) prog_25_method_17_code 6 (some .int) :: ws) ({ frames := 1, cells := 0, slots := 0, locals := 20 } : Room)) (fun a U => a = #[(.ref ar)] ∧ Z.Warmed39 U.vm ∧ U.heap = h0) (fun _ _ _ _ _ => True) (fun _ U o U' => ∃ v L, o = .returned v ∧ Q1_0 Z ar kk h0 n0 v U'.heap L ∧ FrameEnd U o U' L ({ frames := 1, cells := 0, slots := 0, locals := 20 } : Room).cells ({ frames := 1, cells := 0, slots := 0, locals := 20 } : Room).slots) := by
  refine MetFree.of_bodySF (plainFor_of_name own_pn0) hisR ?_
  intro p e s m args below meth c s₁ Bd hml0 hP hK
  obtain ⟨rfl, hZ, hh⟩ := hP
  have hx := Bd.exec
  have hby := Bd.bytes
  have hml : c.maxLocals = 6 := hml0
  have hown : s.vm.findClass "com/example/barred_owl/barredowl/Embedding" = some m.cls := findClass_of_methodNamed Bd.named
  have hnm := (name_of_methodNamed Bd.named Bd.method).1
  have X0 : Stand p l e ({ frames := 1, cells := 0, slots := 0, locals := 20 } : Room) s m #[(.ref ar)] below meth c s₁ [] 0 0 := Stand.of_body Bd
  have e0 : s₁.heap = h0 := by rw [← hh, Bd.state]; rfl
  have N0 := Fr.nil n0
  refine own_in ?_
  refine own_st (fun _ k => castTop (ef_1_0 m ar) k) ?_
  have K0 : Keep h0 h0 [] := Keep.refl h0 []
  show own_Go _ _ _ _ (s₁.setTop (mkF m 0 #[.val (.ref ar), .unset, .unset, .unset, .unset, .unset] []))
  refine own_st (fun _ k => XS.iconst X0.here hx rfl (hb hby d1_0) k) ?_
  show own_Go _ _ _ _ (s₁.setTop (mkF m 1 #[.val (.ref ar), .unset, .unset, .unset, .unset, .unset] [(.int (0 : Int32))]))
  refine own_st (fun _ k => XS.istoreN X0.here hx rfl (hb hby d1_1) rfl (l' := #[.val (.ref ar), .val (.int (0 : Int32)), .unset, .unset, .unset, .unset]) rfl k) ?_
  show own_Go _ _ _ _ (s₁.setTop (mkF m 2 #[.val (.ref ar), .val (.int (0 : Int32)), .unset, .unset, .unset, .unset] []))
  refine own_st (fun _ k => XS.aloadN X0.here hx rfl (hb hby d1_2) rfl rfl k) ?_
  show own_Go _ _ _ _ (s₁.setTop (mkF m 3 #[.val (.ref ar), .val (.int (0 : Int32)), .unset, .unset, .unset, .unset] [(.ref ar)]))
  refine own_st (fun _ k => XS.astoreN X0.here hx rfl (hb hby d1_3) rfl rfl (l' := #[.val (.ref ar), .val (.int (0 : Int32)), .val (.ref ar), .unset, .unset, .unset]) rfl k) ?_
  show own_Go _ _ _ _ (s₁.setTop (mkF m 4 #[.val (.ref ar), .val (.int (0 : Int32)), .val (.ref ar), .unset, .unset, .unset] []))
  refine own_st (fun _ k => XS.aloadN X0.here hx rfl (hb hby d1_4) rfl rfl k) ?_
  show own_Go _ _ _ _ (s₁.setTop (mkF m 5 #[.val (.ref ar), .val (.int (0 : Int32)), .val (.ref ar), .unset, .unset, .unset] [(.ref ar)]))
  obtain ⟨cl2, Ar2, -, Sz2, Nn2, -, -⟩ := id V_ar
  refine own_st (X0.arraylength hx (by rw [e0]; exact Ar2.1) (State.isArrayOf_alike hZ.alike Ar2.2.1) (g := (mkF m 5 #[.val (.ref ar), .val (.int (0 : Int32)), .val (.ref ar), .unset, .unset, .unset] [(.ref ar)])) rfl rfl (hb hby d1_5)) ?_
  rw [len_of Sz2 Nn2]
  show own_Go _ _ _ _ (s₁.setTop (mkF m 6 #[.val (.ref ar), .val (.int (0 : Int32)), .val (.ref ar), .unset, .unset, .unset] [(.int (0 : Int32))]))
  refine own_st (fun _ k => XS.istoreN X0.here hx rfl (hb hby d1_6) rfl (l' := #[.val (.ref ar), .val (.int (0 : Int32)), .val (.ref ar), .val (.int (0 : Int32)), .unset, .unset]) rfl k) ?_
  show own_Go _ _ _ _ (s₁.setTop (mkF m 7 #[.val (.ref ar), .val (.int (0 : Int32)), .val (.ref ar), .val (.int (0 : Int32)), .unset, .unset] []))
  refine own_st (fun _ k => XS.iconst X0.here hx rfl (hb hby d1_7) k) ?_
  show own_Go _ _ _ _ (s₁.setTop (mkF m 8 #[.val (.ref ar), .val (.int (0 : Int32)), .val (.ref ar), .val (.int (0 : Int32)), .unset, .unset] [(.int (0 : Int32))]))
  refine own_st (fun _ k => XS.istore X0.here hx rfl (hb hby d1_8) rfl (l' := #[.val (.ref ar), .val (.int (0 : Int32)), .val (.ref ar), .val (.int (0 : Int32)), .val (.int (0 : Int32)), .unset]) rfl k) ?_
  show own_Go _ _ _ _ (s₁.setTop (mkF m 10 #[.val (.ref ar), .val (.int (0 : Int32)), .val (.ref ar), .val (.int (0 : Int32)), .val (.int (0 : Int32)), .unset] []))
  refine own_st (fun _ k => XS.iload X0.here hx rfl (hb hby d1_10) rfl k) ?_
  show own_Go _ _ _ _ (s₁.setTop (mkF m 12 #[.val (.ref ar), .val (.int (0 : Int32)), .val (.ref ar), .val (.int (0 : Int32)), .val (.int (0 : Int32)), .unset] [(.int (0 : Int32))]))
  refine own_st (fun _ k => XS.iloadN X0.here hx rfl (hb hby d1_12) rfl k) ?_
  show own_Go _ _ _ _ (s₁.setTop (mkF m 13 #[.val (.ref ar), .val (.int (0 : Int32)), .val (.ref ar), .val (.int (0 : Int32)), .val (.int (0 : Int32)), .unset] [(.int (0 : Int32)), (.int (0 : Int32))]))
  refine own_st (fun _ k => XS.icmpYes X0.here hx rfl (pc0 := 13) (pc' := 37) rfl (hb hby d1_13) rfl (flt (by decide : ¬ ((0 : Int32) < (0 : Int32)))).2.1 (by decide) (by decide) k) ?_
  show own_Go _ _ _ _ (s₁.setTop (mkF m 37 #[.val (.ref ar), .val (.int (0 : Int32)), .val (.ref ar), .val (.int (0 : Int32)), .val (.int (0 : Int32)), .unset] []))
  refine own_st (fun _ k => XS.iloadN X0.here hx rfl (hb hby d1_37) rfl k) ?_
  show own_Go _ _ _ _ (s₁.setTop (mkF m 38 #[.val (.ref ar), .val (.int (0 : Int32)), .val (.ref ar), .val (.int (0 : Int32)), .val (.int (0 : Int32)), .unset] [(.int (0 : Int32))]))
  obtain ⟨fs, hr, hrun, hended, hW, hsame⟩ := X0.leave (v := some (.int (0 : Int32))) (fun h => by rw [Bd.returns] at h; cases h)
  refine own_out (own_retI X0 hx Bd.returns (hb hby d1_38) hr) ⟨hrun, hended, _, _, rfl, ?_, ⟨_, rfl⟩, hW, hsame.mono (by decide) (by decide)⟩
  show Q1_0 Z ar kk h0 n0 _ s₁.heap _
  have hv : own_cc0 = (0 : Int32) := rfl
  exact ⟨by rw [hv], N0, e0⟩
def own_cc1 (v0 : Int32) : Int32 := (own_mx (0 : Int32) (v0 + (1 : Int32)))
def Q1_1 (Z : State) (ar : Addr) (kk : ClassId) (v0 : Int32) (h0 : Heap) (n0 : Nat) (v : Option Value) (h : Heap) (L : List Loc) : Prop := v = some (.int (own_cc1 v0)) ∧ Fr n0 L ∧ h = h0
theorem ef_1_1 (m : MethodId) (x0 : Addr) : entryFrame m #[(.ref x0)] 6 = mkF m 0 #[.val (.ref x0), .unset, .unset, .unset, .unset, .unset] [] := by first | (simp [entryFrame, mkF, argsToLocals, Value.category]; done) | rfl
set_option maxRecDepth 65536 in
set_option maxHeartbeats 40000000 in
theorem rm1_1 (l : Launch) (Z : State) (a0 : Array Value) (hw : ∀ d ∈ tables_1, d.before a0 Z = true) (ws : List Jvm.Cond) (ar : Addr) (kk : ClassId) (v0 : Int32) (h0 : Heap) (n0 : Nat) (Z0 : n0 ≤ h0.size) (V_ar : Arv Z h0 ar kk .int (1 : Int32) [.int v0] (.int (0 : Int32))) :
    MetFree l (⟨"com/example/barred_owl/barredowl/Embedding", "componentCount", "([I)I"⟩ : MethodName) (head1 (Jvm.Cond.code (⟨"com/example/barred_owl/barredowl/Embedding", "componentCount", "([I)I"⟩ : MethodName) prog_25_method_17_code 6 (some .int) :: ws) ({ frames := 1, cells := 0, slots := 0, locals := 20 } : Room)) (fun a U => a = #[(.ref ar)] ∧ Z.Warmed39 U.vm ∧ U.heap = h0) (fun _ _ _ _ _ => True) (fun _ U o U' => ∃ v L, o = .returned v ∧ Q1_1 Z ar kk v0 h0 n0 v U'.heap L ∧ FrameEnd U o U' L ({ frames := 1, cells := 0, slots := 0, locals := 20 } : Room).cells ({ frames := 1, cells := 0, slots := 0, locals := 20 } : Room).slots) := by
  refine MetFree.of_bodySF (plainFor_of_name own_pn0) hisR ?_
  intro p e s m args below meth c s₁ Bd hml0 hP hK
  obtain ⟨rfl, hZ, hh⟩ := hP
  have hx := Bd.exec
  have hby := Bd.bytes
  have hml : c.maxLocals = 6 := hml0
  have hown : s.vm.findClass "com/example/barred_owl/barredowl/Embedding" = some m.cls := findClass_of_methodNamed Bd.named
  have hnm := (name_of_methodNamed Bd.named Bd.method).1
  have X0 : Stand p l e ({ frames := 1, cells := 0, slots := 0, locals := 20 } : Room) s m #[(.ref ar)] below meth c s₁ [] 0 0 := Stand.of_body Bd
  have e0 : s₁.heap = h0 := by rw [← hh, Bd.state]; rfl
  have N0 := Fr.nil n0
  refine own_in ?_
  refine own_st (fun _ k => castTop (ef_1_1 m ar) k) ?_
  have K0 : Keep h0 h0 [] := Keep.refl h0 []
  show own_Go _ _ _ _ (s₁.setTop (mkF m 0 #[.val (.ref ar), .unset, .unset, .unset, .unset, .unset] []))
  refine own_st (fun _ k => XS.iconst X0.here hx rfl (hb hby d1_0) k) ?_
  show own_Go _ _ _ _ (s₁.setTop (mkF m 1 #[.val (.ref ar), .unset, .unset, .unset, .unset, .unset] [(.int (0 : Int32))]))
  refine own_st (fun _ k => XS.istoreN X0.here hx rfl (hb hby d1_1) rfl (l' := #[.val (.ref ar), .val (.int (0 : Int32)), .unset, .unset, .unset, .unset]) rfl k) ?_
  show own_Go _ _ _ _ (s₁.setTop (mkF m 2 #[.val (.ref ar), .val (.int (0 : Int32)), .unset, .unset, .unset, .unset] []))
  refine own_st (fun _ k => XS.aloadN X0.here hx rfl (hb hby d1_2) rfl rfl k) ?_
  show own_Go _ _ _ _ (s₁.setTop (mkF m 3 #[.val (.ref ar), .val (.int (0 : Int32)), .unset, .unset, .unset, .unset] [(.ref ar)]))
  refine own_st (fun _ k => XS.astoreN X0.here hx rfl (hb hby d1_3) rfl rfl (l' := #[.val (.ref ar), .val (.int (0 : Int32)), .val (.ref ar), .unset, .unset, .unset]) rfl k) ?_
  show own_Go _ _ _ _ (s₁.setTop (mkF m 4 #[.val (.ref ar), .val (.int (0 : Int32)), .val (.ref ar), .unset, .unset, .unset] []))
  refine own_st (fun _ k => XS.aloadN X0.here hx rfl (hb hby d1_4) rfl rfl k) ?_
  show own_Go _ _ _ _ (s₁.setTop (mkF m 5 #[.val (.ref ar), .val (.int (0 : Int32)), .val (.ref ar), .unset, .unset, .unset] [(.ref ar)]))
  obtain ⟨cl3, Ar3, -, Sz3, Nn3, -, -⟩ := id V_ar
  refine own_st (X0.arraylength hx (by rw [e0]; exact Ar3.1) (State.isArrayOf_alike hZ.alike Ar3.2.1) (g := (mkF m 5 #[.val (.ref ar), .val (.int (0 : Int32)), .val (.ref ar), .unset, .unset, .unset] [(.ref ar)])) rfl rfl (hb hby d1_5)) ?_
  rw [len_of Sz3 Nn3]
  show own_Go _ _ _ _ (s₁.setTop (mkF m 6 #[.val (.ref ar), .val (.int (0 : Int32)), .val (.ref ar), .unset, .unset, .unset] [(.int (1 : Int32))]))
  refine own_st (fun _ k => XS.istoreN X0.here hx rfl (hb hby d1_6) rfl (l' := #[.val (.ref ar), .val (.int (0 : Int32)), .val (.ref ar), .val (.int (1 : Int32)), .unset, .unset]) rfl k) ?_
  show own_Go _ _ _ _ (s₁.setTop (mkF m 7 #[.val (.ref ar), .val (.int (0 : Int32)), .val (.ref ar), .val (.int (1 : Int32)), .unset, .unset] []))
  refine own_st (fun _ k => XS.iconst X0.here hx rfl (hb hby d1_7) k) ?_
  show own_Go _ _ _ _ (s₁.setTop (mkF m 8 #[.val (.ref ar), .val (.int (0 : Int32)), .val (.ref ar), .val (.int (1 : Int32)), .unset, .unset] [(.int (0 : Int32))]))
  refine own_st (fun _ k => XS.istore X0.here hx rfl (hb hby d1_8) rfl (l' := #[.val (.ref ar), .val (.int (0 : Int32)), .val (.ref ar), .val (.int (1 : Int32)), .val (.int (0 : Int32)), .unset]) rfl k) ?_
  show own_Go _ _ _ _ (s₁.setTop (mkF m 10 #[.val (.ref ar), .val (.int (0 : Int32)), .val (.ref ar), .val (.int (1 : Int32)), .val (.int (0 : Int32)), .unset] []))
  refine own_st (fun _ k => XS.iload X0.here hx rfl (hb hby d1_10) rfl k) ?_
  show own_Go _ _ _ _ (s₁.setTop (mkF m 12 #[.val (.ref ar), .val (.int (0 : Int32)), .val (.ref ar), .val (.int (1 : Int32)), .val (.int (0 : Int32)), .unset] [(.int (0 : Int32))]))
  refine own_st (fun _ k => XS.iloadN X0.here hx rfl (hb hby d1_12) rfl k) ?_
  show own_Go _ _ _ _ (s₁.setTop (mkF m 13 #[.val (.ref ar), .val (.int (0 : Int32)), .val (.ref ar), .val (.int (1 : Int32)), .val (.int (0 : Int32)), .unset] [(.int (1 : Int32)), (.int (0 : Int32))]))
  refine own_st (fun _ k => XS.icmpNo X0.here hx rfl (hb hby d1_13) rfl (tlt (by decide : ((0 : Int32) < (1 : Int32)))).2.1 k) ?_
  show own_Go _ _ _ _ (s₁.setTop (mkF m 16 #[.val (.ref ar), .val (.int (0 : Int32)), .val (.ref ar), .val (.int (1 : Int32)), .val (.int (0 : Int32)), .unset] []))
  refine own_st (fun _ k => XS.aloadN X0.here hx rfl (hb hby d1_16) rfl rfl k) ?_
  show own_Go _ _ _ _ (s₁.setTop (mkF m 17 #[.val (.ref ar), .val (.int (0 : Int32)), .val (.ref ar), .val (.int (1 : Int32)), .val (.int (0 : Int32)), .unset] [(.ref ar)]))
  refine own_st (fun _ k => XS.iload X0.here hx rfl (hb hby d1_17) rfl k) ?_
  show own_Go _ _ _ _ (s₁.setTop (mkF m 19 #[.val (.ref ar), .val (.int (0 : Int32)), .val (.ref ar), .val (.int (1 : Int32)), .val (.int (0 : Int32)), .unset] [(.int (0 : Int32)), (.ref ar)]))
  obtain ⟨cl4, Ar4, -, Sz4, Nn4, Hs4, -⟩ := id V_ar
  have hin4 : ¬ ((0 : Int32) < 0 ∨ cl4.slots.size ≤ ((0 : Int32)).toNatClampNeg) := inb_of Sz4 ⟨(by decide : ¬ ((0 : Int32) < (0 : Int32))), (by decide : (0 : Int32) < (1 : Int32))⟩
  have hat4 : cl4.slots[((0 : Int32)).toNatClampNeg]? = some (.int v0) := Hs4.at hin4 rfl
  refine own_st (X0.iaload hx (j := (0 : Int32)) (v := (.int v0)) (by rw [e0]; exact Ar4.1) (State.isArrayOf_alike hZ.alike Ar4.2.1) Ar4.2.2 hin4 hat4 (g := (mkF m 19 #[.val (.ref ar), .val (.int (0 : Int32)), .val (.ref ar), .val (.int (1 : Int32)), .val (.int (0 : Int32)), .unset] [(.int (0 : Int32)), (.ref ar)])) rfl rfl (hb hby d1_19)) ?_
  show own_Go _ _ _ _ (s₁.setTop (mkF m 20 #[.val (.ref ar), .val (.int (0 : Int32)), .val (.ref ar), .val (.int (1 : Int32)), .val (.int (0 : Int32)), .unset] [(.int v0)]))
  refine own_st (fun _ k => XS.istore X0.here hx rfl (hb hby d1_20) rfl (l' := #[.val (.ref ar), .val (.int (0 : Int32)), .val (.ref ar), .val (.int (1 : Int32)), .val (.int (0 : Int32)), .val (.int v0)]) rfl k) ?_
  show own_Go _ _ _ _ (s₁.setTop (mkF m 22 #[.val (.ref ar), .val (.int (0 : Int32)), .val (.ref ar), .val (.int (1 : Int32)), .val (.int (0 : Int32)), .val (.int v0)] []))
  refine own_st (fun _ k => XS.iloadN X0.here hx rfl (hb hby d1_22) rfl k) ?_
  show own_Go _ _ _ _ (s₁.setTop (mkF m 23 #[.val (.ref ar), .val (.int (0 : Int32)), .val (.ref ar), .val (.int (1 : Int32)), .val (.int (0 : Int32)), .val (.int v0)] [(.int (0 : Int32))]))
  refine own_st (fun _ k => XS.iload X0.here hx rfl (hb hby d1_23) rfl k) ?_
  show own_Go _ _ _ _ (s₁.setTop (mkF m 25 #[.val (.ref ar), .val (.int (0 : Int32)), .val (.ref ar), .val (.int (1 : Int32)), .val (.int (0 : Int32)), .val (.int v0)] [(.int v0), (.int (0 : Int32))]))
  refine own_st (fun _ k => XS.iconst X0.here hx rfl (hb hby d1_25) k) ?_
  show own_Go _ _ _ _ (s₁.setTop (mkF m 26 #[.val (.ref ar), .val (.int (0 : Int32)), .val (.ref ar), .val (.int (1 : Int32)), .val (.int (0 : Int32)), .val (.int v0)] [(.int (1 : Int32)), (.int v0), (.int (0 : Int32))]))
  refine own_st (fun _ k => XS.iadd X0.here hx rfl (hb hby d1_26) rfl k) ?_
  show own_Go _ _ _ _ (s₁.setTop (mkF m 27 #[.val (.ref ar), .val (.int (0 : Int32)), .val (.ref ar), .val (.int (1 : Int32)), .val (.int (0 : Int32)), .val (.int v0)] [(.int (v0 + (1 : Int32))), (.int (0 : Int32))]))
  obtain ⟨_, _, ⟨T5, L5, k5, n5⟩, -, X5, ⟨Lc5, hQ5, l5, y5, z5⟩, st5⟩ := Jvm.LawKit.callS X0 hx (y := (⟨"java/lang/Math", "max", "(II)I"⟩ : MethodName)) hown (mvT hZ (hw _ (List.mem_of_getElem? (i := 6) rfl))) (mvT hZ (hw _ (List.mem_of_getElem? (i := 7) rfl))) (mvT hZ (hw _ (List.mem_of_getElem? (i := 8) rfl))) (mvT hZ (hw _ (List.mem_of_getElem? (i := 9) rfl))) (by decide) (backOf (W := 0) (rm2 l Z a0 hw [] (0 : Int32) (v0 + (1 : Int32)) h0 n0 Z0 ) hZ (hw _ (List.mem_of_getElem? (i := 9) rfl)) (hw _ (List.mem_of_getElem? (i := 8) rfl)) (by decide) (by decide)) (g := (mkF m 27 #[.val (.ref ar), .val (.int (0 : Int32)), .val (.ref ar), .val (.int (1 : Int32)), .val (.int (0 : Int32)), .val (.int v0)] [(.int (v0 + (1 : Int32))), (.int (0 : Int32))])) rfl (by rw [hml]; rfl) (argsL := [(.int (0 : Int32)), (.int (v0 + (1 : Int32)))]) (rest := []) (lenOf own_pd0 rfl) rfl (by show 2 * 0 + _ ≤ _; exact Nat.le_of_eq rfl) (hb hby d1_27) (fun _ _ => ⟨rfl, e0, (by decide : 0 + 0 ≤ _), (by decide : 0 + 0 ≤ _)⟩)
  dsimp only [Pt.U, Pt.locs, Pt.cells, Pt.slots] at X5 l5 y5 z5 st5 hQ5
  subst l5 y5 z5
  obtain ⟨rfl, Nq5, eq5⟩ := hQ5
  have N5 := Fr.app N0 Nq5
  refine own_st st5 ?_
  show own_Go _ _ _ _ (T5.setTop (mkF m 30 #[.val (.ref ar), .val (.int (0 : Int32)), .val (.ref ar), .val (.int (1 : Int32)), .val (.int (0 : Int32)), .val (.int v0)] [(.int (own_mx (0 : Int32) (v0 + (1 : Int32))))]))
  refine own_st (fun _ k => XS.istoreN X5.here hx rfl (hb hby d1_30) rfl (l' := #[.val (.ref ar), .val (.int (own_mx (0 : Int32) (v0 + (1 : Int32)))), .val (.ref ar), .val (.int (1 : Int32)), .val (.int (0 : Int32)), .val (.int v0)]) rfl k) ?_
  show own_Go _ _ _ _ (T5.setTop (mkF m 31 #[.val (.ref ar), .val (.int (own_mx (0 : Int32) (v0 + (1 : Int32)))), .val (.ref ar), .val (.int (1 : Int32)), .val (.int (0 : Int32)), .val (.int v0)] []))
  refine own_st (fun _ k => XS.iinc X5.here hx rfl (hb hby d1_31) rfl (l' := #[.val (.ref ar), .val (.int (own_mx (0 : Int32) (v0 + (1 : Int32)))), .val (.ref ar), .val (.int (1 : Int32)), .val (.int (1 : Int32)), .val (.int v0)]) rfl k) ?_
  show own_Go _ _ _ _ (T5.setTop (mkF m 34 #[.val (.ref ar), .val (.int (own_mx (0 : Int32) (v0 + (1 : Int32)))), .val (.ref ar), .val (.int (1 : Int32)), .val (.int (1 : Int32)), .val (.int v0)] []))
  refine own_st (fun _ k => XS.goto X5.here hx rfl (pc0 := 34) (pc' := 10) rfl (hb hby d1_34) (by decide) (by decide) k) ?_
  show own_Go _ _ _ _ (T5.setTop (mkF m 10 #[.val (.ref ar), .val (.int (own_mx (0 : Int32) (v0 + (1 : Int32)))), .val (.ref ar), .val (.int (1 : Int32)), .val (.int (1 : Int32)), .val (.int v0)] []))
  refine own_st (fun _ k => XS.iload X5.here hx rfl (hb hby d1_10) rfl k) ?_
  show own_Go _ _ _ _ (T5.setTop (mkF m 12 #[.val (.ref ar), .val (.int (own_mx (0 : Int32) (v0 + (1 : Int32)))), .val (.ref ar), .val (.int (1 : Int32)), .val (.int (1 : Int32)), .val (.int v0)] [(.int (1 : Int32))]))
  refine own_st (fun _ k => XS.iloadN X5.here hx rfl (hb hby d1_12) rfl k) ?_
  show own_Go _ _ _ _ (T5.setTop (mkF m 13 #[.val (.ref ar), .val (.int (own_mx (0 : Int32) (v0 + (1 : Int32)))), .val (.ref ar), .val (.int (1 : Int32)), .val (.int (1 : Int32)), .val (.int v0)] [(.int (1 : Int32)), (.int (1 : Int32))]))
  refine own_st (fun _ k => XS.icmpYes X5.here hx rfl (pc0 := 13) (pc' := 37) rfl (hb hby d1_13) rfl (flt (by decide : ¬ ((1 : Int32) < (1 : Int32)))).2.1 (by decide) (by decide) k) ?_
  show own_Go _ _ _ _ (T5.setTop (mkF m 37 #[.val (.ref ar), .val (.int (own_mx (0 : Int32) (v0 + (1 : Int32)))), .val (.ref ar), .val (.int (1 : Int32)), .val (.int (1 : Int32)), .val (.int v0)] []))
  refine own_st (fun _ k => XS.iloadN X5.here hx rfl (hb hby d1_37) rfl k) ?_
  show own_Go _ _ _ _ (T5.setTop (mkF m 38 #[.val (.ref ar), .val (.int (own_mx (0 : Int32) (v0 + (1 : Int32)))), .val (.ref ar), .val (.int (1 : Int32)), .val (.int (1 : Int32)), .val (.int v0)] [(.int (own_mx (0 : Int32) (v0 + (1 : Int32))))]))
  obtain ⟨fs, hr, hrun, hended, hW, hsame⟩ := X5.leave (v := some (.int (own_mx (0 : Int32) (v0 + (1 : Int32))))) (fun h => by rw [Bd.returns] at h; cases h)
  refine own_out (own_retI X5 hx Bd.returns (hb hby d1_38) hr) ⟨hrun, hended, _, _, rfl, ?_, ⟨_, rfl⟩, hW, hsame.mono (by decide) (by decide)⟩
  show Q1_1 Z ar kk v0 h0 n0 _ T5.heap _
  have hv : own_cc1 v0 = (own_mx (0 : Int32) (v0 + (1 : Int32))) := rfl
  exact ⟨by rw [hv], N5, eq5⟩
def own_cc2 (v0 : Int32) (v1 : Int32) : Int32 := (own_mx (own_mx (0 : Int32) (v0 + (1 : Int32))) (v1 + (1 : Int32)))
def Q1_2 (Z : State) (ar : Addr) (kk : ClassId) (v0 : Int32) (v1 : Int32) (h0 : Heap) (n0 : Nat) (v : Option Value) (h : Heap) (L : List Loc) : Prop := v = some (.int (own_cc2 v0 v1)) ∧ Fr n0 L ∧ h = h0
theorem ef_1_2 (m : MethodId) (x0 : Addr) : entryFrame m #[(.ref x0)] 6 = mkF m 0 #[.val (.ref x0), .unset, .unset, .unset, .unset, .unset] [] := by first | (simp [entryFrame, mkF, argsToLocals, Value.category]; done) | rfl
set_option maxRecDepth 65536 in
set_option maxHeartbeats 40000000 in
theorem rm1_2 (l : Launch) (Z : State) (a0 : Array Value) (hw : ∀ d ∈ tables_1, d.before a0 Z = true) (ws : List Jvm.Cond) (ar : Addr) (kk : ClassId) (v0 : Int32) (v1 : Int32) (h0 : Heap) (n0 : Nat) (Z0 : n0 ≤ h0.size) (V_ar : Arv Z h0 ar kk .int (2 : Int32) [.int v0, .int v1] (.int (0 : Int32))) :
    MetFree l (⟨"com/example/barred_owl/barredowl/Embedding", "componentCount", "([I)I"⟩ : MethodName) (head1 (Jvm.Cond.code (⟨"com/example/barred_owl/barredowl/Embedding", "componentCount", "([I)I"⟩ : MethodName) prog_25_method_17_code 6 (some .int) :: ws) ({ frames := 1, cells := 0, slots := 0, locals := 20 } : Room)) (fun a U => a = #[(.ref ar)] ∧ Z.Warmed39 U.vm ∧ U.heap = h0) (fun _ _ _ _ _ => True) (fun _ U o U' => ∃ v L, o = .returned v ∧ Q1_2 Z ar kk v0 v1 h0 n0 v U'.heap L ∧ FrameEnd U o U' L ({ frames := 1, cells := 0, slots := 0, locals := 20 } : Room).cells ({ frames := 1, cells := 0, slots := 0, locals := 20 } : Room).slots) := by
  refine MetFree.of_bodySF (plainFor_of_name own_pn0) hisR ?_
  intro p e s m args below meth c s₁ Bd hml0 hP hK
  obtain ⟨rfl, hZ, hh⟩ := hP
  have hx := Bd.exec
  have hby := Bd.bytes
  have hml : c.maxLocals = 6 := hml0
  have hown : s.vm.findClass "com/example/barred_owl/barredowl/Embedding" = some m.cls := findClass_of_methodNamed Bd.named
  have hnm := (name_of_methodNamed Bd.named Bd.method).1
  have X0 : Stand p l e ({ frames := 1, cells := 0, slots := 0, locals := 20 } : Room) s m #[(.ref ar)] below meth c s₁ [] 0 0 := Stand.of_body Bd
  have e0 : s₁.heap = h0 := by rw [← hh, Bd.state]; rfl
  have N0 := Fr.nil n0
  refine own_in ?_
  refine own_st (fun _ k => castTop (ef_1_2 m ar) k) ?_
  have K0 : Keep h0 h0 [] := Keep.refl h0 []
  show own_Go _ _ _ _ (s₁.setTop (mkF m 0 #[.val (.ref ar), .unset, .unset, .unset, .unset, .unset] []))
  refine own_st (fun _ k => XS.iconst X0.here hx rfl (hb hby d1_0) k) ?_
  show own_Go _ _ _ _ (s₁.setTop (mkF m 1 #[.val (.ref ar), .unset, .unset, .unset, .unset, .unset] [(.int (0 : Int32))]))
  refine own_st (fun _ k => XS.istoreN X0.here hx rfl (hb hby d1_1) rfl (l' := #[.val (.ref ar), .val (.int (0 : Int32)), .unset, .unset, .unset, .unset]) rfl k) ?_
  show own_Go _ _ _ _ (s₁.setTop (mkF m 2 #[.val (.ref ar), .val (.int (0 : Int32)), .unset, .unset, .unset, .unset] []))
  refine own_st (fun _ k => XS.aloadN X0.here hx rfl (hb hby d1_2) rfl rfl k) ?_
  show own_Go _ _ _ _ (s₁.setTop (mkF m 3 #[.val (.ref ar), .val (.int (0 : Int32)), .unset, .unset, .unset, .unset] [(.ref ar)]))
  refine own_st (fun _ k => XS.astoreN X0.here hx rfl (hb hby d1_3) rfl rfl (l' := #[.val (.ref ar), .val (.int (0 : Int32)), .val (.ref ar), .unset, .unset, .unset]) rfl k) ?_
  show own_Go _ _ _ _ (s₁.setTop (mkF m 4 #[.val (.ref ar), .val (.int (0 : Int32)), .val (.ref ar), .unset, .unset, .unset] []))
  refine own_st (fun _ k => XS.aloadN X0.here hx rfl (hb hby d1_4) rfl rfl k) ?_
  show own_Go _ _ _ _ (s₁.setTop (mkF m 5 #[.val (.ref ar), .val (.int (0 : Int32)), .val (.ref ar), .unset, .unset, .unset] [(.ref ar)]))
  obtain ⟨cl6, Ar6, -, Sz6, Nn6, -, -⟩ := id V_ar
  refine own_st (X0.arraylength hx (by rw [e0]; exact Ar6.1) (State.isArrayOf_alike hZ.alike Ar6.2.1) (g := (mkF m 5 #[.val (.ref ar), .val (.int (0 : Int32)), .val (.ref ar), .unset, .unset, .unset] [(.ref ar)])) rfl rfl (hb hby d1_5)) ?_
  rw [len_of Sz6 Nn6]
  show own_Go _ _ _ _ (s₁.setTop (mkF m 6 #[.val (.ref ar), .val (.int (0 : Int32)), .val (.ref ar), .unset, .unset, .unset] [(.int (2 : Int32))]))
  refine own_st (fun _ k => XS.istoreN X0.here hx rfl (hb hby d1_6) rfl (l' := #[.val (.ref ar), .val (.int (0 : Int32)), .val (.ref ar), .val (.int (2 : Int32)), .unset, .unset]) rfl k) ?_
  show own_Go _ _ _ _ (s₁.setTop (mkF m 7 #[.val (.ref ar), .val (.int (0 : Int32)), .val (.ref ar), .val (.int (2 : Int32)), .unset, .unset] []))
  refine own_st (fun _ k => XS.iconst X0.here hx rfl (hb hby d1_7) k) ?_
  show own_Go _ _ _ _ (s₁.setTop (mkF m 8 #[.val (.ref ar), .val (.int (0 : Int32)), .val (.ref ar), .val (.int (2 : Int32)), .unset, .unset] [(.int (0 : Int32))]))
  refine own_st (fun _ k => XS.istore X0.here hx rfl (hb hby d1_8) rfl (l' := #[.val (.ref ar), .val (.int (0 : Int32)), .val (.ref ar), .val (.int (2 : Int32)), .val (.int (0 : Int32)), .unset]) rfl k) ?_
  show own_Go _ _ _ _ (s₁.setTop (mkF m 10 #[.val (.ref ar), .val (.int (0 : Int32)), .val (.ref ar), .val (.int (2 : Int32)), .val (.int (0 : Int32)), .unset] []))
  refine own_st (fun _ k => XS.iload X0.here hx rfl (hb hby d1_10) rfl k) ?_
  show own_Go _ _ _ _ (s₁.setTop (mkF m 12 #[.val (.ref ar), .val (.int (0 : Int32)), .val (.ref ar), .val (.int (2 : Int32)), .val (.int (0 : Int32)), .unset] [(.int (0 : Int32))]))
  refine own_st (fun _ k => XS.iloadN X0.here hx rfl (hb hby d1_12) rfl k) ?_
  show own_Go _ _ _ _ (s₁.setTop (mkF m 13 #[.val (.ref ar), .val (.int (0 : Int32)), .val (.ref ar), .val (.int (2 : Int32)), .val (.int (0 : Int32)), .unset] [(.int (2 : Int32)), (.int (0 : Int32))]))
  refine own_st (fun _ k => XS.icmpNo X0.here hx rfl (hb hby d1_13) rfl (tlt (by decide : ((0 : Int32) < (2 : Int32)))).2.1 k) ?_
  show own_Go _ _ _ _ (s₁.setTop (mkF m 16 #[.val (.ref ar), .val (.int (0 : Int32)), .val (.ref ar), .val (.int (2 : Int32)), .val (.int (0 : Int32)), .unset] []))
  refine own_st (fun _ k => XS.aloadN X0.here hx rfl (hb hby d1_16) rfl rfl k) ?_
  show own_Go _ _ _ _ (s₁.setTop (mkF m 17 #[.val (.ref ar), .val (.int (0 : Int32)), .val (.ref ar), .val (.int (2 : Int32)), .val (.int (0 : Int32)), .unset] [(.ref ar)]))
  refine own_st (fun _ k => XS.iload X0.here hx rfl (hb hby d1_17) rfl k) ?_
  show own_Go _ _ _ _ (s₁.setTop (mkF m 19 #[.val (.ref ar), .val (.int (0 : Int32)), .val (.ref ar), .val (.int (2 : Int32)), .val (.int (0 : Int32)), .unset] [(.int (0 : Int32)), (.ref ar)]))
  obtain ⟨cl7, Ar7, -, Sz7, Nn7, Hs7, -⟩ := id V_ar
  have hin7 : ¬ ((0 : Int32) < 0 ∨ cl7.slots.size ≤ ((0 : Int32)).toNatClampNeg) := inb_of Sz7 ⟨(by decide : ¬ ((0 : Int32) < (0 : Int32))), (by decide : (0 : Int32) < (2 : Int32))⟩
  have hat7 : cl7.slots[((0 : Int32)).toNatClampNeg]? = some (.int v0) := Hs7.at hin7 rfl
  refine own_st (X0.iaload hx (j := (0 : Int32)) (v := (.int v0)) (by rw [e0]; exact Ar7.1) (State.isArrayOf_alike hZ.alike Ar7.2.1) Ar7.2.2 hin7 hat7 (g := (mkF m 19 #[.val (.ref ar), .val (.int (0 : Int32)), .val (.ref ar), .val (.int (2 : Int32)), .val (.int (0 : Int32)), .unset] [(.int (0 : Int32)), (.ref ar)])) rfl rfl (hb hby d1_19)) ?_
  show own_Go _ _ _ _ (s₁.setTop (mkF m 20 #[.val (.ref ar), .val (.int (0 : Int32)), .val (.ref ar), .val (.int (2 : Int32)), .val (.int (0 : Int32)), .unset] [(.int v0)]))
  refine own_st (fun _ k => XS.istore X0.here hx rfl (hb hby d1_20) rfl (l' := #[.val (.ref ar), .val (.int (0 : Int32)), .val (.ref ar), .val (.int (2 : Int32)), .val (.int (0 : Int32)), .val (.int v0)]) rfl k) ?_
  show own_Go _ _ _ _ (s₁.setTop (mkF m 22 #[.val (.ref ar), .val (.int (0 : Int32)), .val (.ref ar), .val (.int (2 : Int32)), .val (.int (0 : Int32)), .val (.int v0)] []))
  refine own_st (fun _ k => XS.iloadN X0.here hx rfl (hb hby d1_22) rfl k) ?_
  show own_Go _ _ _ _ (s₁.setTop (mkF m 23 #[.val (.ref ar), .val (.int (0 : Int32)), .val (.ref ar), .val (.int (2 : Int32)), .val (.int (0 : Int32)), .val (.int v0)] [(.int (0 : Int32))]))
  refine own_st (fun _ k => XS.iload X0.here hx rfl (hb hby d1_23) rfl k) ?_
  show own_Go _ _ _ _ (s₁.setTop (mkF m 25 #[.val (.ref ar), .val (.int (0 : Int32)), .val (.ref ar), .val (.int (2 : Int32)), .val (.int (0 : Int32)), .val (.int v0)] [(.int v0), (.int (0 : Int32))]))
  refine own_st (fun _ k => XS.iconst X0.here hx rfl (hb hby d1_25) k) ?_
  show own_Go _ _ _ _ (s₁.setTop (mkF m 26 #[.val (.ref ar), .val (.int (0 : Int32)), .val (.ref ar), .val (.int (2 : Int32)), .val (.int (0 : Int32)), .val (.int v0)] [(.int (1 : Int32)), (.int v0), (.int (0 : Int32))]))
  refine own_st (fun _ k => XS.iadd X0.here hx rfl (hb hby d1_26) rfl k) ?_
  show own_Go _ _ _ _ (s₁.setTop (mkF m 27 #[.val (.ref ar), .val (.int (0 : Int32)), .val (.ref ar), .val (.int (2 : Int32)), .val (.int (0 : Int32)), .val (.int v0)] [(.int (v0 + (1 : Int32))), (.int (0 : Int32))]))
  obtain ⟨_, _, ⟨T8, L8, k8, n8⟩, -, X8, ⟨Lc8, hQ8, l8, y8, z8⟩, st8⟩ := Jvm.LawKit.callS X0 hx (y := (⟨"java/lang/Math", "max", "(II)I"⟩ : MethodName)) hown (mvT hZ (hw _ (List.mem_of_getElem? (i := 6) rfl))) (mvT hZ (hw _ (List.mem_of_getElem? (i := 7) rfl))) (mvT hZ (hw _ (List.mem_of_getElem? (i := 8) rfl))) (mvT hZ (hw _ (List.mem_of_getElem? (i := 9) rfl))) (by decide) (backOf (W := 0) (rm2 l Z a0 hw [] (0 : Int32) (v0 + (1 : Int32)) h0 n0 Z0 ) hZ (hw _ (List.mem_of_getElem? (i := 9) rfl)) (hw _ (List.mem_of_getElem? (i := 8) rfl)) (by decide) (by decide)) (g := (mkF m 27 #[.val (.ref ar), .val (.int (0 : Int32)), .val (.ref ar), .val (.int (2 : Int32)), .val (.int (0 : Int32)), .val (.int v0)] [(.int (v0 + (1 : Int32))), (.int (0 : Int32))])) rfl (by rw [hml]; rfl) (argsL := [(.int (0 : Int32)), (.int (v0 + (1 : Int32)))]) (rest := []) (lenOf own_pd0 rfl) rfl (by show 2 * 0 + _ ≤ _; exact Nat.le_of_eq rfl) (hb hby d1_27) (fun _ _ => ⟨rfl, e0, (by decide : 0 + 0 ≤ _), (by decide : 0 + 0 ≤ _)⟩)
  dsimp only [Pt.U, Pt.locs, Pt.cells, Pt.slots] at X8 l8 y8 z8 st8 hQ8
  subst l8 y8 z8
  obtain ⟨rfl, Nq8, eq8⟩ := hQ8
  have N8 := Fr.app N0 Nq8
  refine own_st st8 ?_
  show own_Go _ _ _ _ (T8.setTop (mkF m 30 #[.val (.ref ar), .val (.int (0 : Int32)), .val (.ref ar), .val (.int (2 : Int32)), .val (.int (0 : Int32)), .val (.int v0)] [(.int (own_mx (0 : Int32) (v0 + (1 : Int32))))]))
  refine own_st (fun _ k => XS.istoreN X8.here hx rfl (hb hby d1_30) rfl (l' := #[.val (.ref ar), .val (.int (own_mx (0 : Int32) (v0 + (1 : Int32)))), .val (.ref ar), .val (.int (2 : Int32)), .val (.int (0 : Int32)), .val (.int v0)]) rfl k) ?_
  show own_Go _ _ _ _ (T8.setTop (mkF m 31 #[.val (.ref ar), .val (.int (own_mx (0 : Int32) (v0 + (1 : Int32)))), .val (.ref ar), .val (.int (2 : Int32)), .val (.int (0 : Int32)), .val (.int v0)] []))
  refine own_st (fun _ k => XS.iinc X8.here hx rfl (hb hby d1_31) rfl (l' := #[.val (.ref ar), .val (.int (own_mx (0 : Int32) (v0 + (1 : Int32)))), .val (.ref ar), .val (.int (2 : Int32)), .val (.int (1 : Int32)), .val (.int v0)]) rfl k) ?_
  show own_Go _ _ _ _ (T8.setTop (mkF m 34 #[.val (.ref ar), .val (.int (own_mx (0 : Int32) (v0 + (1 : Int32)))), .val (.ref ar), .val (.int (2 : Int32)), .val (.int (1 : Int32)), .val (.int v0)] []))
  refine own_st (fun _ k => XS.goto X8.here hx rfl (pc0 := 34) (pc' := 10) rfl (hb hby d1_34) (by decide) (by decide) k) ?_
  show own_Go _ _ _ _ (T8.setTop (mkF m 10 #[.val (.ref ar), .val (.int (own_mx (0 : Int32) (v0 + (1 : Int32)))), .val (.ref ar), .val (.int (2 : Int32)), .val (.int (1 : Int32)), .val (.int v0)] []))
  refine own_st (fun _ k => XS.iload X8.here hx rfl (hb hby d1_10) rfl k) ?_
  show own_Go _ _ _ _ (T8.setTop (mkF m 12 #[.val (.ref ar), .val (.int (own_mx (0 : Int32) (v0 + (1 : Int32)))), .val (.ref ar), .val (.int (2 : Int32)), .val (.int (1 : Int32)), .val (.int v0)] [(.int (1 : Int32))]))
  refine own_st (fun _ k => XS.iloadN X8.here hx rfl (hb hby d1_12) rfl k) ?_
  show own_Go _ _ _ _ (T8.setTop (mkF m 13 #[.val (.ref ar), .val (.int (own_mx (0 : Int32) (v0 + (1 : Int32)))), .val (.ref ar), .val (.int (2 : Int32)), .val (.int (1 : Int32)), .val (.int v0)] [(.int (2 : Int32)), (.int (1 : Int32))]))
  refine own_st (fun _ k => XS.icmpNo X8.here hx rfl (hb hby d1_13) rfl (tlt (by decide : ((1 : Int32) < (2 : Int32)))).2.1 k) ?_
  show own_Go _ _ _ _ (T8.setTop (mkF m 16 #[.val (.ref ar), .val (.int (own_mx (0 : Int32) (v0 + (1 : Int32)))), .val (.ref ar), .val (.int (2 : Int32)), .val (.int (1 : Int32)), .val (.int v0)] []))
  refine own_st (fun _ k => XS.aloadN X8.here hx rfl (hb hby d1_16) rfl rfl k) ?_
  show own_Go _ _ _ _ (T8.setTop (mkF m 17 #[.val (.ref ar), .val (.int (own_mx (0 : Int32) (v0 + (1 : Int32)))), .val (.ref ar), .val (.int (2 : Int32)), .val (.int (1 : Int32)), .val (.int v0)] [(.ref ar)]))
  refine own_st (fun _ k => XS.iload X8.here hx rfl (hb hby d1_17) rfl k) ?_
  show own_Go _ _ _ _ (T8.setTop (mkF m 19 #[.val (.ref ar), .val (.int (own_mx (0 : Int32) (v0 + (1 : Int32)))), .val (.ref ar), .val (.int (2 : Int32)), .val (.int (1 : Int32)), .val (.int v0)] [(.int (1 : Int32)), (.ref ar)]))
  obtain ⟨cl9, Ar9, -, Sz9, Nn9, Hs9, -⟩ := id V_ar
  have hin9 : ¬ ((1 : Int32) < 0 ∨ cl9.slots.size ≤ ((1 : Int32)).toNatClampNeg) := inb_of Sz9 ⟨(by decide : ¬ ((1 : Int32) < (0 : Int32))), (by decide : (1 : Int32) < (2 : Int32))⟩
  have hat9 : cl9.slots[((1 : Int32)).toNatClampNeg]? = some (.int v1) := Hs9.at hin9 rfl
  refine own_st (X8.iaload hx (j := (1 : Int32)) (v := (.int v1)) (by rw [eq8]; exact Ar9.1) (State.isArrayOf_alike hZ.alike Ar9.2.1) Ar9.2.2 hin9 hat9 (g := (mkF m 19 #[.val (.ref ar), .val (.int (own_mx (0 : Int32) (v0 + (1 : Int32)))), .val (.ref ar), .val (.int (2 : Int32)), .val (.int (1 : Int32)), .val (.int v0)] [(.int (1 : Int32)), (.ref ar)])) rfl rfl (hb hby d1_19)) ?_
  show own_Go _ _ _ _ (T8.setTop (mkF m 20 #[.val (.ref ar), .val (.int (own_mx (0 : Int32) (v0 + (1 : Int32)))), .val (.ref ar), .val (.int (2 : Int32)), .val (.int (1 : Int32)), .val (.int v0)] [(.int v1)]))
  refine own_st (fun _ k => XS.istore X8.here hx rfl (hb hby d1_20) rfl (l' := #[.val (.ref ar), .val (.int (own_mx (0 : Int32) (v0 + (1 : Int32)))), .val (.ref ar), .val (.int (2 : Int32)), .val (.int (1 : Int32)), .val (.int v1)]) rfl k) ?_
  show own_Go _ _ _ _ (T8.setTop (mkF m 22 #[.val (.ref ar), .val (.int (own_mx (0 : Int32) (v0 + (1 : Int32)))), .val (.ref ar), .val (.int (2 : Int32)), .val (.int (1 : Int32)), .val (.int v1)] []))
  refine own_st (fun _ k => XS.iloadN X8.here hx rfl (hb hby d1_22) rfl k) ?_
  show own_Go _ _ _ _ (T8.setTop (mkF m 23 #[.val (.ref ar), .val (.int (own_mx (0 : Int32) (v0 + (1 : Int32)))), .val (.ref ar), .val (.int (2 : Int32)), .val (.int (1 : Int32)), .val (.int v1)] [(.int (own_mx (0 : Int32) (v0 + (1 : Int32))))]))
  refine own_st (fun _ k => XS.iload X8.here hx rfl (hb hby d1_23) rfl k) ?_
  show own_Go _ _ _ _ (T8.setTop (mkF m 25 #[.val (.ref ar), .val (.int (own_mx (0 : Int32) (v0 + (1 : Int32)))), .val (.ref ar), .val (.int (2 : Int32)), .val (.int (1 : Int32)), .val (.int v1)] [(.int v1), (.int (own_mx (0 : Int32) (v0 + (1 : Int32))))]))
  refine own_st (fun _ k => XS.iconst X8.here hx rfl (hb hby d1_25) k) ?_
  show own_Go _ _ _ _ (T8.setTop (mkF m 26 #[.val (.ref ar), .val (.int (own_mx (0 : Int32) (v0 + (1 : Int32)))), .val (.ref ar), .val (.int (2 : Int32)), .val (.int (1 : Int32)), .val (.int v1)] [(.int (1 : Int32)), (.int v1), (.int (own_mx (0 : Int32) (v0 + (1 : Int32))))]))
  refine own_st (fun _ k => XS.iadd X8.here hx rfl (hb hby d1_26) rfl k) ?_
  show own_Go _ _ _ _ (T8.setTop (mkF m 27 #[.val (.ref ar), .val (.int (own_mx (0 : Int32) (v0 + (1 : Int32)))), .val (.ref ar), .val (.int (2 : Int32)), .val (.int (1 : Int32)), .val (.int v1)] [(.int (v1 + (1 : Int32))), (.int (own_mx (0 : Int32) (v0 + (1 : Int32))))]))
  obtain ⟨_, _, ⟨T10, L10, k10, n10⟩, -, X10, ⟨Lc10, hQ10, l10, y10, z10⟩, st10⟩ := Jvm.LawKit.callS X8 hx (y := (⟨"java/lang/Math", "max", "(II)I"⟩ : MethodName)) hown (mvT hZ (hw _ (List.mem_of_getElem? (i := 6) rfl))) (mvT hZ (hw _ (List.mem_of_getElem? (i := 7) rfl))) (mvT hZ (hw _ (List.mem_of_getElem? (i := 8) rfl))) (mvT hZ (hw _ (List.mem_of_getElem? (i := 9) rfl))) (by decide) (backOf (W := 0) (rm2 l Z a0 hw [] (own_mx (0 : Int32) (v0 + (1 : Int32))) (v1 + (1 : Int32)) h0 n0 Z0 ) hZ (hw _ (List.mem_of_getElem? (i := 9) rfl)) (hw _ (List.mem_of_getElem? (i := 8) rfl)) (by decide) (by decide)) (g := (mkF m 27 #[.val (.ref ar), .val (.int (own_mx (0 : Int32) (v0 + (1 : Int32)))), .val (.ref ar), .val (.int (2 : Int32)), .val (.int (1 : Int32)), .val (.int v1)] [(.int (v1 + (1 : Int32))), (.int (own_mx (0 : Int32) (v0 + (1 : Int32))))])) rfl (by rw [hml]; rfl) (argsL := [(.int (own_mx (0 : Int32) (v0 + (1 : Int32)))), (.int (v1 + (1 : Int32)))]) (rest := []) (lenOf own_pd0 rfl) rfl (by show 2 * 0 + _ ≤ _; exact Nat.le_of_eq rfl) (hb hby d1_27) (fun _ _ => ⟨rfl, eq8, (by decide : 0 + 0 ≤ _), (by decide : 0 + 0 ≤ _)⟩)
  dsimp only [Pt.U, Pt.locs, Pt.cells, Pt.slots] at X10 l10 y10 z10 st10 hQ10
  subst l10 y10 z10
  obtain ⟨rfl, Nq10, eq10⟩ := hQ10
  have N10 := Fr.app N8 Nq10
  refine own_st st10 ?_
  show own_Go _ _ _ _ (T10.setTop (mkF m 30 #[.val (.ref ar), .val (.int (own_mx (0 : Int32) (v0 + (1 : Int32)))), .val (.ref ar), .val (.int (2 : Int32)), .val (.int (1 : Int32)), .val (.int v1)] [(.int (own_mx (own_mx (0 : Int32) (v0 + (1 : Int32))) (v1 + (1 : Int32))))]))
  refine own_st (fun _ k => XS.istoreN X10.here hx rfl (hb hby d1_30) rfl (l' := #[.val (.ref ar), .val (.int (own_mx (own_mx (0 : Int32) (v0 + (1 : Int32))) (v1 + (1 : Int32)))), .val (.ref ar), .val (.int (2 : Int32)), .val (.int (1 : Int32)), .val (.int v1)]) rfl k) ?_
  show own_Go _ _ _ _ (T10.setTop (mkF m 31 #[.val (.ref ar), .val (.int (own_mx (own_mx (0 : Int32) (v0 + (1 : Int32))) (v1 + (1 : Int32)))), .val (.ref ar), .val (.int (2 : Int32)), .val (.int (1 : Int32)), .val (.int v1)] []))
  refine own_st (fun _ k => XS.iinc X10.here hx rfl (hb hby d1_31) rfl (l' := #[.val (.ref ar), .val (.int (own_mx (own_mx (0 : Int32) (v0 + (1 : Int32))) (v1 + (1 : Int32)))), .val (.ref ar), .val (.int (2 : Int32)), .val (.int (2 : Int32)), .val (.int v1)]) rfl k) ?_
  show own_Go _ _ _ _ (T10.setTop (mkF m 34 #[.val (.ref ar), .val (.int (own_mx (own_mx (0 : Int32) (v0 + (1 : Int32))) (v1 + (1 : Int32)))), .val (.ref ar), .val (.int (2 : Int32)), .val (.int (2 : Int32)), .val (.int v1)] []))
  refine own_st (fun _ k => XS.goto X10.here hx rfl (pc0 := 34) (pc' := 10) rfl (hb hby d1_34) (by decide) (by decide) k) ?_
  show own_Go _ _ _ _ (T10.setTop (mkF m 10 #[.val (.ref ar), .val (.int (own_mx (own_mx (0 : Int32) (v0 + (1 : Int32))) (v1 + (1 : Int32)))), .val (.ref ar), .val (.int (2 : Int32)), .val (.int (2 : Int32)), .val (.int v1)] []))
  refine own_st (fun _ k => XS.iload X10.here hx rfl (hb hby d1_10) rfl k) ?_
  show own_Go _ _ _ _ (T10.setTop (mkF m 12 #[.val (.ref ar), .val (.int (own_mx (own_mx (0 : Int32) (v0 + (1 : Int32))) (v1 + (1 : Int32)))), .val (.ref ar), .val (.int (2 : Int32)), .val (.int (2 : Int32)), .val (.int v1)] [(.int (2 : Int32))]))
  refine own_st (fun _ k => XS.iloadN X10.here hx rfl (hb hby d1_12) rfl k) ?_
  show own_Go _ _ _ _ (T10.setTop (mkF m 13 #[.val (.ref ar), .val (.int (own_mx (own_mx (0 : Int32) (v0 + (1 : Int32))) (v1 + (1 : Int32)))), .val (.ref ar), .val (.int (2 : Int32)), .val (.int (2 : Int32)), .val (.int v1)] [(.int (2 : Int32)), (.int (2 : Int32))]))
  refine own_st (fun _ k => XS.icmpYes X10.here hx rfl (pc0 := 13) (pc' := 37) rfl (hb hby d1_13) rfl (flt (by decide : ¬ ((2 : Int32) < (2 : Int32)))).2.1 (by decide) (by decide) k) ?_
  show own_Go _ _ _ _ (T10.setTop (mkF m 37 #[.val (.ref ar), .val (.int (own_mx (own_mx (0 : Int32) (v0 + (1 : Int32))) (v1 + (1 : Int32)))), .val (.ref ar), .val (.int (2 : Int32)), .val (.int (2 : Int32)), .val (.int v1)] []))
  refine own_st (fun _ k => XS.iloadN X10.here hx rfl (hb hby d1_37) rfl k) ?_
  show own_Go _ _ _ _ (T10.setTop (mkF m 38 #[.val (.ref ar), .val (.int (own_mx (own_mx (0 : Int32) (v0 + (1 : Int32))) (v1 + (1 : Int32)))), .val (.ref ar), .val (.int (2 : Int32)), .val (.int (2 : Int32)), .val (.int v1)] [(.int (own_mx (own_mx (0 : Int32) (v0 + (1 : Int32))) (v1 + (1 : Int32))))]))
  obtain ⟨fs, hr, hrun, hended, hW, hsame⟩ := X10.leave (v := some (.int (own_mx (own_mx (0 : Int32) (v0 + (1 : Int32))) (v1 + (1 : Int32))))) (fun h => by rw [Bd.returns] at h; cases h)
  refine own_out (own_retI X10 hx Bd.returns (hb hby d1_38) hr) ⟨hrun, hended, _, _, rfl, ?_, ⟨_, rfl⟩, hW, hsame.mono (by decide) (by decide)⟩
  show Q1_2 Z ar kk v0 v1 h0 n0 _ T10.heap _
  have hv : own_cc2 v0 v1 = (own_mx (own_mx (0 : Int32) (v0 + (1 : Int32))) (v1 + (1 : Int32))) := rfl
  exact ⟨by rw [hv], N10, eq10⟩
def own_cc3 (v0 : Int32) (v1 : Int32) (v2 : Int32) : Int32 := (own_mx (own_mx (own_mx (0 : Int32) (v0 + (1 : Int32))) (v1 + (1 : Int32))) (v2 + (1 : Int32)))
def Q1_3 (Z : State) (ar : Addr) (kk : ClassId) (v0 : Int32) (v1 : Int32) (v2 : Int32) (h0 : Heap) (n0 : Nat) (v : Option Value) (h : Heap) (L : List Loc) : Prop := v = some (.int (own_cc3 v0 v1 v2)) ∧ Fr n0 L ∧ h = h0
theorem ef_1_3 (m : MethodId) (x0 : Addr) : entryFrame m #[(.ref x0)] 6 = mkF m 0 #[.val (.ref x0), .unset, .unset, .unset, .unset, .unset] [] := by first | (simp [entryFrame, mkF, argsToLocals, Value.category]; done) | rfl
set_option maxRecDepth 65536 in
set_option maxHeartbeats 40000000 in
theorem rm1_3 (l : Launch) (Z : State) (a0 : Array Value) (hw : ∀ d ∈ tables_1, d.before a0 Z = true) (ws : List Jvm.Cond) (ar : Addr) (kk : ClassId) (v0 : Int32) (v1 : Int32) (v2 : Int32) (h0 : Heap) (n0 : Nat) (Z0 : n0 ≤ h0.size) (V_ar : Arv Z h0 ar kk .int (3 : Int32) [.int v0, .int v1, .int v2] (.int (0 : Int32))) :
    MetFree l (⟨"com/example/barred_owl/barredowl/Embedding", "componentCount", "([I)I"⟩ : MethodName) (head1 (Jvm.Cond.code (⟨"com/example/barred_owl/barredowl/Embedding", "componentCount", "([I)I"⟩ : MethodName) prog_25_method_17_code 6 (some .int) :: ws) ({ frames := 1, cells := 0, slots := 0, locals := 20 } : Room)) (fun a U => a = #[(.ref ar)] ∧ Z.Warmed39 U.vm ∧ U.heap = h0) (fun _ _ _ _ _ => True) (fun _ U o U' => ∃ v L, o = .returned v ∧ Q1_3 Z ar kk v0 v1 v2 h0 n0 v U'.heap L ∧ FrameEnd U o U' L ({ frames := 1, cells := 0, slots := 0, locals := 20 } : Room).cells ({ frames := 1, cells := 0, slots := 0, locals := 20 } : Room).slots) := by
  refine MetFree.of_bodySF (plainFor_of_name own_pn0) hisR ?_
  intro p e s m args below meth c s₁ Bd hml0 hP hK
  obtain ⟨rfl, hZ, hh⟩ := hP
  have hx := Bd.exec
  have hby := Bd.bytes
  have hml : c.maxLocals = 6 := hml0
  have hown : s.vm.findClass "com/example/barred_owl/barredowl/Embedding" = some m.cls := findClass_of_methodNamed Bd.named
  have hnm := (name_of_methodNamed Bd.named Bd.method).1
  have X0 : Stand p l e ({ frames := 1, cells := 0, slots := 0, locals := 20 } : Room) s m #[(.ref ar)] below meth c s₁ [] 0 0 := Stand.of_body Bd
  have e0 : s₁.heap = h0 := by rw [← hh, Bd.state]; rfl
  have N0 := Fr.nil n0
  refine own_in ?_
  refine own_st (fun _ k => castTop (ef_1_3 m ar) k) ?_
  have K0 : Keep h0 h0 [] := Keep.refl h0 []
  show own_Go _ _ _ _ (s₁.setTop (mkF m 0 #[.val (.ref ar), .unset, .unset, .unset, .unset, .unset] []))
  refine own_st (fun _ k => XS.iconst X0.here hx rfl (hb hby d1_0) k) ?_
  show own_Go _ _ _ _ (s₁.setTop (mkF m 1 #[.val (.ref ar), .unset, .unset, .unset, .unset, .unset] [(.int (0 : Int32))]))
  refine own_st (fun _ k => XS.istoreN X0.here hx rfl (hb hby d1_1) rfl (l' := #[.val (.ref ar), .val (.int (0 : Int32)), .unset, .unset, .unset, .unset]) rfl k) ?_
  show own_Go _ _ _ _ (s₁.setTop (mkF m 2 #[.val (.ref ar), .val (.int (0 : Int32)), .unset, .unset, .unset, .unset] []))
  refine own_st (fun _ k => XS.aloadN X0.here hx rfl (hb hby d1_2) rfl rfl k) ?_
  show own_Go _ _ _ _ (s₁.setTop (mkF m 3 #[.val (.ref ar), .val (.int (0 : Int32)), .unset, .unset, .unset, .unset] [(.ref ar)]))
  refine own_st (fun _ k => XS.astoreN X0.here hx rfl (hb hby d1_3) rfl rfl (l' := #[.val (.ref ar), .val (.int (0 : Int32)), .val (.ref ar), .unset, .unset, .unset]) rfl k) ?_
  show own_Go _ _ _ _ (s₁.setTop (mkF m 4 #[.val (.ref ar), .val (.int (0 : Int32)), .val (.ref ar), .unset, .unset, .unset] []))
  refine own_st (fun _ k => XS.aloadN X0.here hx rfl (hb hby d1_4) rfl rfl k) ?_
  show own_Go _ _ _ _ (s₁.setTop (mkF m 5 #[.val (.ref ar), .val (.int (0 : Int32)), .val (.ref ar), .unset, .unset, .unset] [(.ref ar)]))
  obtain ⟨cl11, Ar11, -, Sz11, Nn11, -, -⟩ := id V_ar
  refine own_st (X0.arraylength hx (by rw [e0]; exact Ar11.1) (State.isArrayOf_alike hZ.alike Ar11.2.1) (g := (mkF m 5 #[.val (.ref ar), .val (.int (0 : Int32)), .val (.ref ar), .unset, .unset, .unset] [(.ref ar)])) rfl rfl (hb hby d1_5)) ?_
  rw [len_of Sz11 Nn11]
  show own_Go _ _ _ _ (s₁.setTop (mkF m 6 #[.val (.ref ar), .val (.int (0 : Int32)), .val (.ref ar), .unset, .unset, .unset] [(.int (3 : Int32))]))
  refine own_st (fun _ k => XS.istoreN X0.here hx rfl (hb hby d1_6) rfl (l' := #[.val (.ref ar), .val (.int (0 : Int32)), .val (.ref ar), .val (.int (3 : Int32)), .unset, .unset]) rfl k) ?_
  show own_Go _ _ _ _ (s₁.setTop (mkF m 7 #[.val (.ref ar), .val (.int (0 : Int32)), .val (.ref ar), .val (.int (3 : Int32)), .unset, .unset] []))
  refine own_st (fun _ k => XS.iconst X0.here hx rfl (hb hby d1_7) k) ?_
  show own_Go _ _ _ _ (s₁.setTop (mkF m 8 #[.val (.ref ar), .val (.int (0 : Int32)), .val (.ref ar), .val (.int (3 : Int32)), .unset, .unset] [(.int (0 : Int32))]))
  refine own_st (fun _ k => XS.istore X0.here hx rfl (hb hby d1_8) rfl (l' := #[.val (.ref ar), .val (.int (0 : Int32)), .val (.ref ar), .val (.int (3 : Int32)), .val (.int (0 : Int32)), .unset]) rfl k) ?_
  show own_Go _ _ _ _ (s₁.setTop (mkF m 10 #[.val (.ref ar), .val (.int (0 : Int32)), .val (.ref ar), .val (.int (3 : Int32)), .val (.int (0 : Int32)), .unset] []))
  refine own_st (fun _ k => XS.iload X0.here hx rfl (hb hby d1_10) rfl k) ?_
  show own_Go _ _ _ _ (s₁.setTop (mkF m 12 #[.val (.ref ar), .val (.int (0 : Int32)), .val (.ref ar), .val (.int (3 : Int32)), .val (.int (0 : Int32)), .unset] [(.int (0 : Int32))]))
  refine own_st (fun _ k => XS.iloadN X0.here hx rfl (hb hby d1_12) rfl k) ?_
  show own_Go _ _ _ _ (s₁.setTop (mkF m 13 #[.val (.ref ar), .val (.int (0 : Int32)), .val (.ref ar), .val (.int (3 : Int32)), .val (.int (0 : Int32)), .unset] [(.int (3 : Int32)), (.int (0 : Int32))]))
  refine own_st (fun _ k => XS.icmpNo X0.here hx rfl (hb hby d1_13) rfl (tlt (by decide : ((0 : Int32) < (3 : Int32)))).2.1 k) ?_
  show own_Go _ _ _ _ (s₁.setTop (mkF m 16 #[.val (.ref ar), .val (.int (0 : Int32)), .val (.ref ar), .val (.int (3 : Int32)), .val (.int (0 : Int32)), .unset] []))
  refine own_st (fun _ k => XS.aloadN X0.here hx rfl (hb hby d1_16) rfl rfl k) ?_
  show own_Go _ _ _ _ (s₁.setTop (mkF m 17 #[.val (.ref ar), .val (.int (0 : Int32)), .val (.ref ar), .val (.int (3 : Int32)), .val (.int (0 : Int32)), .unset] [(.ref ar)]))
  refine own_st (fun _ k => XS.iload X0.here hx rfl (hb hby d1_17) rfl k) ?_
  show own_Go _ _ _ _ (s₁.setTop (mkF m 19 #[.val (.ref ar), .val (.int (0 : Int32)), .val (.ref ar), .val (.int (3 : Int32)), .val (.int (0 : Int32)), .unset] [(.int (0 : Int32)), (.ref ar)]))
  obtain ⟨cl12, Ar12, -, Sz12, Nn12, Hs12, -⟩ := id V_ar
  have hin12 : ¬ ((0 : Int32) < 0 ∨ cl12.slots.size ≤ ((0 : Int32)).toNatClampNeg) := inb_of Sz12 ⟨(by decide : ¬ ((0 : Int32) < (0 : Int32))), (by decide : (0 : Int32) < (3 : Int32))⟩
  have hat12 : cl12.slots[((0 : Int32)).toNatClampNeg]? = some (.int v0) := Hs12.at hin12 rfl
  refine own_st (X0.iaload hx (j := (0 : Int32)) (v := (.int v0)) (by rw [e0]; exact Ar12.1) (State.isArrayOf_alike hZ.alike Ar12.2.1) Ar12.2.2 hin12 hat12 (g := (mkF m 19 #[.val (.ref ar), .val (.int (0 : Int32)), .val (.ref ar), .val (.int (3 : Int32)), .val (.int (0 : Int32)), .unset] [(.int (0 : Int32)), (.ref ar)])) rfl rfl (hb hby d1_19)) ?_
  show own_Go _ _ _ _ (s₁.setTop (mkF m 20 #[.val (.ref ar), .val (.int (0 : Int32)), .val (.ref ar), .val (.int (3 : Int32)), .val (.int (0 : Int32)), .unset] [(.int v0)]))
  refine own_st (fun _ k => XS.istore X0.here hx rfl (hb hby d1_20) rfl (l' := #[.val (.ref ar), .val (.int (0 : Int32)), .val (.ref ar), .val (.int (3 : Int32)), .val (.int (0 : Int32)), .val (.int v0)]) rfl k) ?_
  show own_Go _ _ _ _ (s₁.setTop (mkF m 22 #[.val (.ref ar), .val (.int (0 : Int32)), .val (.ref ar), .val (.int (3 : Int32)), .val (.int (0 : Int32)), .val (.int v0)] []))
  refine own_st (fun _ k => XS.iloadN X0.here hx rfl (hb hby d1_22) rfl k) ?_
  show own_Go _ _ _ _ (s₁.setTop (mkF m 23 #[.val (.ref ar), .val (.int (0 : Int32)), .val (.ref ar), .val (.int (3 : Int32)), .val (.int (0 : Int32)), .val (.int v0)] [(.int (0 : Int32))]))
  refine own_st (fun _ k => XS.iload X0.here hx rfl (hb hby d1_23) rfl k) ?_
  show own_Go _ _ _ _ (s₁.setTop (mkF m 25 #[.val (.ref ar), .val (.int (0 : Int32)), .val (.ref ar), .val (.int (3 : Int32)), .val (.int (0 : Int32)), .val (.int v0)] [(.int v0), (.int (0 : Int32))]))
  refine own_st (fun _ k => XS.iconst X0.here hx rfl (hb hby d1_25) k) ?_
  show own_Go _ _ _ _ (s₁.setTop (mkF m 26 #[.val (.ref ar), .val (.int (0 : Int32)), .val (.ref ar), .val (.int (3 : Int32)), .val (.int (0 : Int32)), .val (.int v0)] [(.int (1 : Int32)), (.int v0), (.int (0 : Int32))]))
  refine own_st (fun _ k => XS.iadd X0.here hx rfl (hb hby d1_26) rfl k) ?_
  show own_Go _ _ _ _ (s₁.setTop (mkF m 27 #[.val (.ref ar), .val (.int (0 : Int32)), .val (.ref ar), .val (.int (3 : Int32)), .val (.int (0 : Int32)), .val (.int v0)] [(.int (v0 + (1 : Int32))), (.int (0 : Int32))]))
  obtain ⟨_, _, ⟨T13, L13, k13, n13⟩, -, X13, ⟨Lc13, hQ13, l13, y13, z13⟩, st13⟩ := Jvm.LawKit.callS X0 hx (y := (⟨"java/lang/Math", "max", "(II)I"⟩ : MethodName)) hown (mvT hZ (hw _ (List.mem_of_getElem? (i := 6) rfl))) (mvT hZ (hw _ (List.mem_of_getElem? (i := 7) rfl))) (mvT hZ (hw _ (List.mem_of_getElem? (i := 8) rfl))) (mvT hZ (hw _ (List.mem_of_getElem? (i := 9) rfl))) (by decide) (backOf (W := 0) (rm2 l Z a0 hw [] (0 : Int32) (v0 + (1 : Int32)) h0 n0 Z0 ) hZ (hw _ (List.mem_of_getElem? (i := 9) rfl)) (hw _ (List.mem_of_getElem? (i := 8) rfl)) (by decide) (by decide)) (g := (mkF m 27 #[.val (.ref ar), .val (.int (0 : Int32)), .val (.ref ar), .val (.int (3 : Int32)), .val (.int (0 : Int32)), .val (.int v0)] [(.int (v0 + (1 : Int32))), (.int (0 : Int32))])) rfl (by rw [hml]; rfl) (argsL := [(.int (0 : Int32)), (.int (v0 + (1 : Int32)))]) (rest := []) (lenOf own_pd0 rfl) rfl (by show 2 * 0 + _ ≤ _; exact Nat.le_of_eq rfl) (hb hby d1_27) (fun _ _ => ⟨rfl, e0, (by decide : 0 + 0 ≤ _), (by decide : 0 + 0 ≤ _)⟩)
  dsimp only [Pt.U, Pt.locs, Pt.cells, Pt.slots] at X13 l13 y13 z13 st13 hQ13
  subst l13 y13 z13
  obtain ⟨rfl, Nq13, eq13⟩ := hQ13
  have N13 := Fr.app N0 Nq13
  refine own_st st13 ?_
  show own_Go _ _ _ _ (T13.setTop (mkF m 30 #[.val (.ref ar), .val (.int (0 : Int32)), .val (.ref ar), .val (.int (3 : Int32)), .val (.int (0 : Int32)), .val (.int v0)] [(.int (own_mx (0 : Int32) (v0 + (1 : Int32))))]))
  refine own_st (fun _ k => XS.istoreN X13.here hx rfl (hb hby d1_30) rfl (l' := #[.val (.ref ar), .val (.int (own_mx (0 : Int32) (v0 + (1 : Int32)))), .val (.ref ar), .val (.int (3 : Int32)), .val (.int (0 : Int32)), .val (.int v0)]) rfl k) ?_
  show own_Go _ _ _ _ (T13.setTop (mkF m 31 #[.val (.ref ar), .val (.int (own_mx (0 : Int32) (v0 + (1 : Int32)))), .val (.ref ar), .val (.int (3 : Int32)), .val (.int (0 : Int32)), .val (.int v0)] []))
  refine own_st (fun _ k => XS.iinc X13.here hx rfl (hb hby d1_31) rfl (l' := #[.val (.ref ar), .val (.int (own_mx (0 : Int32) (v0 + (1 : Int32)))), .val (.ref ar), .val (.int (3 : Int32)), .val (.int (1 : Int32)), .val (.int v0)]) rfl k) ?_
  show own_Go _ _ _ _ (T13.setTop (mkF m 34 #[.val (.ref ar), .val (.int (own_mx (0 : Int32) (v0 + (1 : Int32)))), .val (.ref ar), .val (.int (3 : Int32)), .val (.int (1 : Int32)), .val (.int v0)] []))
  refine own_st (fun _ k => XS.goto X13.here hx rfl (pc0 := 34) (pc' := 10) rfl (hb hby d1_34) (by decide) (by decide) k) ?_
  show own_Go _ _ _ _ (T13.setTop (mkF m 10 #[.val (.ref ar), .val (.int (own_mx (0 : Int32) (v0 + (1 : Int32)))), .val (.ref ar), .val (.int (3 : Int32)), .val (.int (1 : Int32)), .val (.int v0)] []))
  refine own_st (fun _ k => XS.iload X13.here hx rfl (hb hby d1_10) rfl k) ?_
  show own_Go _ _ _ _ (T13.setTop (mkF m 12 #[.val (.ref ar), .val (.int (own_mx (0 : Int32) (v0 + (1 : Int32)))), .val (.ref ar), .val (.int (3 : Int32)), .val (.int (1 : Int32)), .val (.int v0)] [(.int (1 : Int32))]))
  refine own_st (fun _ k => XS.iloadN X13.here hx rfl (hb hby d1_12) rfl k) ?_
  show own_Go _ _ _ _ (T13.setTop (mkF m 13 #[.val (.ref ar), .val (.int (own_mx (0 : Int32) (v0 + (1 : Int32)))), .val (.ref ar), .val (.int (3 : Int32)), .val (.int (1 : Int32)), .val (.int v0)] [(.int (3 : Int32)), (.int (1 : Int32))]))
  refine own_st (fun _ k => XS.icmpNo X13.here hx rfl (hb hby d1_13) rfl (tlt (by decide : ((1 : Int32) < (3 : Int32)))).2.1 k) ?_
  show own_Go _ _ _ _ (T13.setTop (mkF m 16 #[.val (.ref ar), .val (.int (own_mx (0 : Int32) (v0 + (1 : Int32)))), .val (.ref ar), .val (.int (3 : Int32)), .val (.int (1 : Int32)), .val (.int v0)] []))
  refine own_st (fun _ k => XS.aloadN X13.here hx rfl (hb hby d1_16) rfl rfl k) ?_
  show own_Go _ _ _ _ (T13.setTop (mkF m 17 #[.val (.ref ar), .val (.int (own_mx (0 : Int32) (v0 + (1 : Int32)))), .val (.ref ar), .val (.int (3 : Int32)), .val (.int (1 : Int32)), .val (.int v0)] [(.ref ar)]))
  refine own_st (fun _ k => XS.iload X13.here hx rfl (hb hby d1_17) rfl k) ?_
  show own_Go _ _ _ _ (T13.setTop (mkF m 19 #[.val (.ref ar), .val (.int (own_mx (0 : Int32) (v0 + (1 : Int32)))), .val (.ref ar), .val (.int (3 : Int32)), .val (.int (1 : Int32)), .val (.int v0)] [(.int (1 : Int32)), (.ref ar)]))
  obtain ⟨cl14, Ar14, -, Sz14, Nn14, Hs14, -⟩ := id V_ar
  have hin14 : ¬ ((1 : Int32) < 0 ∨ cl14.slots.size ≤ ((1 : Int32)).toNatClampNeg) := inb_of Sz14 ⟨(by decide : ¬ ((1 : Int32) < (0 : Int32))), (by decide : (1 : Int32) < (3 : Int32))⟩
  have hat14 : cl14.slots[((1 : Int32)).toNatClampNeg]? = some (.int v1) := Hs14.at hin14 rfl
  refine own_st (X13.iaload hx (j := (1 : Int32)) (v := (.int v1)) (by rw [eq13]; exact Ar14.1) (State.isArrayOf_alike hZ.alike Ar14.2.1) Ar14.2.2 hin14 hat14 (g := (mkF m 19 #[.val (.ref ar), .val (.int (own_mx (0 : Int32) (v0 + (1 : Int32)))), .val (.ref ar), .val (.int (3 : Int32)), .val (.int (1 : Int32)), .val (.int v0)] [(.int (1 : Int32)), (.ref ar)])) rfl rfl (hb hby d1_19)) ?_
  show own_Go _ _ _ _ (T13.setTop (mkF m 20 #[.val (.ref ar), .val (.int (own_mx (0 : Int32) (v0 + (1 : Int32)))), .val (.ref ar), .val (.int (3 : Int32)), .val (.int (1 : Int32)), .val (.int v0)] [(.int v1)]))
  refine own_st (fun _ k => XS.istore X13.here hx rfl (hb hby d1_20) rfl (l' := #[.val (.ref ar), .val (.int (own_mx (0 : Int32) (v0 + (1 : Int32)))), .val (.ref ar), .val (.int (3 : Int32)), .val (.int (1 : Int32)), .val (.int v1)]) rfl k) ?_
  show own_Go _ _ _ _ (T13.setTop (mkF m 22 #[.val (.ref ar), .val (.int (own_mx (0 : Int32) (v0 + (1 : Int32)))), .val (.ref ar), .val (.int (3 : Int32)), .val (.int (1 : Int32)), .val (.int v1)] []))
  refine own_st (fun _ k => XS.iloadN X13.here hx rfl (hb hby d1_22) rfl k) ?_
  show own_Go _ _ _ _ (T13.setTop (mkF m 23 #[.val (.ref ar), .val (.int (own_mx (0 : Int32) (v0 + (1 : Int32)))), .val (.ref ar), .val (.int (3 : Int32)), .val (.int (1 : Int32)), .val (.int v1)] [(.int (own_mx (0 : Int32) (v0 + (1 : Int32))))]))
  refine own_st (fun _ k => XS.iload X13.here hx rfl (hb hby d1_23) rfl k) ?_
  show own_Go _ _ _ _ (T13.setTop (mkF m 25 #[.val (.ref ar), .val (.int (own_mx (0 : Int32) (v0 + (1 : Int32)))), .val (.ref ar), .val (.int (3 : Int32)), .val (.int (1 : Int32)), .val (.int v1)] [(.int v1), (.int (own_mx (0 : Int32) (v0 + (1 : Int32))))]))
  refine own_st (fun _ k => XS.iconst X13.here hx rfl (hb hby d1_25) k) ?_
  show own_Go _ _ _ _ (T13.setTop (mkF m 26 #[.val (.ref ar), .val (.int (own_mx (0 : Int32) (v0 + (1 : Int32)))), .val (.ref ar), .val (.int (3 : Int32)), .val (.int (1 : Int32)), .val (.int v1)] [(.int (1 : Int32)), (.int v1), (.int (own_mx (0 : Int32) (v0 + (1 : Int32))))]))
  refine own_st (fun _ k => XS.iadd X13.here hx rfl (hb hby d1_26) rfl k) ?_
  show own_Go _ _ _ _ (T13.setTop (mkF m 27 #[.val (.ref ar), .val (.int (own_mx (0 : Int32) (v0 + (1 : Int32)))), .val (.ref ar), .val (.int (3 : Int32)), .val (.int (1 : Int32)), .val (.int v1)] [(.int (v1 + (1 : Int32))), (.int (own_mx (0 : Int32) (v0 + (1 : Int32))))]))
  obtain ⟨_, _, ⟨T15, L15, k15, n15⟩, -, X15, ⟨Lc15, hQ15, l15, y15, z15⟩, st15⟩ := Jvm.LawKit.callS X13 hx (y := (⟨"java/lang/Math", "max", "(II)I"⟩ : MethodName)) hown (mvT hZ (hw _ (List.mem_of_getElem? (i := 6) rfl))) (mvT hZ (hw _ (List.mem_of_getElem? (i := 7) rfl))) (mvT hZ (hw _ (List.mem_of_getElem? (i := 8) rfl))) (mvT hZ (hw _ (List.mem_of_getElem? (i := 9) rfl))) (by decide) (backOf (W := 0) (rm2 l Z a0 hw [] (own_mx (0 : Int32) (v0 + (1 : Int32))) (v1 + (1 : Int32)) h0 n0 Z0 ) hZ (hw _ (List.mem_of_getElem? (i := 9) rfl)) (hw _ (List.mem_of_getElem? (i := 8) rfl)) (by decide) (by decide)) (g := (mkF m 27 #[.val (.ref ar), .val (.int (own_mx (0 : Int32) (v0 + (1 : Int32)))), .val (.ref ar), .val (.int (3 : Int32)), .val (.int (1 : Int32)), .val (.int v1)] [(.int (v1 + (1 : Int32))), (.int (own_mx (0 : Int32) (v0 + (1 : Int32))))])) rfl (by rw [hml]; rfl) (argsL := [(.int (own_mx (0 : Int32) (v0 + (1 : Int32)))), (.int (v1 + (1 : Int32)))]) (rest := []) (lenOf own_pd0 rfl) rfl (by show 2 * 0 + _ ≤ _; exact Nat.le_of_eq rfl) (hb hby d1_27) (fun _ _ => ⟨rfl, eq13, (by decide : 0 + 0 ≤ _), (by decide : 0 + 0 ≤ _)⟩)
  dsimp only [Pt.U, Pt.locs, Pt.cells, Pt.slots] at X15 l15 y15 z15 st15 hQ15
  subst l15 y15 z15
  obtain ⟨rfl, Nq15, eq15⟩ := hQ15
  have N15 := Fr.app N13 Nq15
  refine own_st st15 ?_
  show own_Go _ _ _ _ (T15.setTop (mkF m 30 #[.val (.ref ar), .val (.int (own_mx (0 : Int32) (v0 + (1 : Int32)))), .val (.ref ar), .val (.int (3 : Int32)), .val (.int (1 : Int32)), .val (.int v1)] [(.int (own_mx (own_mx (0 : Int32) (v0 + (1 : Int32))) (v1 + (1 : Int32))))]))
  refine own_st (fun _ k => XS.istoreN X15.here hx rfl (hb hby d1_30) rfl (l' := #[.val (.ref ar), .val (.int (own_mx (own_mx (0 : Int32) (v0 + (1 : Int32))) (v1 + (1 : Int32)))), .val (.ref ar), .val (.int (3 : Int32)), .val (.int (1 : Int32)), .val (.int v1)]) rfl k) ?_
  show own_Go _ _ _ _ (T15.setTop (mkF m 31 #[.val (.ref ar), .val (.int (own_mx (own_mx (0 : Int32) (v0 + (1 : Int32))) (v1 + (1 : Int32)))), .val (.ref ar), .val (.int (3 : Int32)), .val (.int (1 : Int32)), .val (.int v1)] []))
  refine own_st (fun _ k => XS.iinc X15.here hx rfl (hb hby d1_31) rfl (l' := #[.val (.ref ar), .val (.int (own_mx (own_mx (0 : Int32) (v0 + (1 : Int32))) (v1 + (1 : Int32)))), .val (.ref ar), .val (.int (3 : Int32)), .val (.int (2 : Int32)), .val (.int v1)]) rfl k) ?_
  show own_Go _ _ _ _ (T15.setTop (mkF m 34 #[.val (.ref ar), .val (.int (own_mx (own_mx (0 : Int32) (v0 + (1 : Int32))) (v1 + (1 : Int32)))), .val (.ref ar), .val (.int (3 : Int32)), .val (.int (2 : Int32)), .val (.int v1)] []))
  refine own_st (fun _ k => XS.goto X15.here hx rfl (pc0 := 34) (pc' := 10) rfl (hb hby d1_34) (by decide) (by decide) k) ?_
  show own_Go _ _ _ _ (T15.setTop (mkF m 10 #[.val (.ref ar), .val (.int (own_mx (own_mx (0 : Int32) (v0 + (1 : Int32))) (v1 + (1 : Int32)))), .val (.ref ar), .val (.int (3 : Int32)), .val (.int (2 : Int32)), .val (.int v1)] []))
  refine own_st (fun _ k => XS.iload X15.here hx rfl (hb hby d1_10) rfl k) ?_
  show own_Go _ _ _ _ (T15.setTop (mkF m 12 #[.val (.ref ar), .val (.int (own_mx (own_mx (0 : Int32) (v0 + (1 : Int32))) (v1 + (1 : Int32)))), .val (.ref ar), .val (.int (3 : Int32)), .val (.int (2 : Int32)), .val (.int v1)] [(.int (2 : Int32))]))
  refine own_st (fun _ k => XS.iloadN X15.here hx rfl (hb hby d1_12) rfl k) ?_
  show own_Go _ _ _ _ (T15.setTop (mkF m 13 #[.val (.ref ar), .val (.int (own_mx (own_mx (0 : Int32) (v0 + (1 : Int32))) (v1 + (1 : Int32)))), .val (.ref ar), .val (.int (3 : Int32)), .val (.int (2 : Int32)), .val (.int v1)] [(.int (3 : Int32)), (.int (2 : Int32))]))
  refine own_st (fun _ k => XS.icmpNo X15.here hx rfl (hb hby d1_13) rfl (tlt (by decide : ((2 : Int32) < (3 : Int32)))).2.1 k) ?_
  show own_Go _ _ _ _ (T15.setTop (mkF m 16 #[.val (.ref ar), .val (.int (own_mx (own_mx (0 : Int32) (v0 + (1 : Int32))) (v1 + (1 : Int32)))), .val (.ref ar), .val (.int (3 : Int32)), .val (.int (2 : Int32)), .val (.int v1)] []))
  refine own_st (fun _ k => XS.aloadN X15.here hx rfl (hb hby d1_16) rfl rfl k) ?_
  show own_Go _ _ _ _ (T15.setTop (mkF m 17 #[.val (.ref ar), .val (.int (own_mx (own_mx (0 : Int32) (v0 + (1 : Int32))) (v1 + (1 : Int32)))), .val (.ref ar), .val (.int (3 : Int32)), .val (.int (2 : Int32)), .val (.int v1)] [(.ref ar)]))
  refine own_st (fun _ k => XS.iload X15.here hx rfl (hb hby d1_17) rfl k) ?_
  show own_Go _ _ _ _ (T15.setTop (mkF m 19 #[.val (.ref ar), .val (.int (own_mx (own_mx (0 : Int32) (v0 + (1 : Int32))) (v1 + (1 : Int32)))), .val (.ref ar), .val (.int (3 : Int32)), .val (.int (2 : Int32)), .val (.int v1)] [(.int (2 : Int32)), (.ref ar)]))
  obtain ⟨cl16, Ar16, -, Sz16, Nn16, Hs16, -⟩ := id V_ar
  have hin16 : ¬ ((2 : Int32) < 0 ∨ cl16.slots.size ≤ ((2 : Int32)).toNatClampNeg) := inb_of Sz16 ⟨(by decide : ¬ ((2 : Int32) < (0 : Int32))), (by decide : (2 : Int32) < (3 : Int32))⟩
  have hat16 : cl16.slots[((2 : Int32)).toNatClampNeg]? = some (.int v2) := Hs16.at hin16 rfl
  refine own_st (X15.iaload hx (j := (2 : Int32)) (v := (.int v2)) (by rw [eq15]; exact Ar16.1) (State.isArrayOf_alike hZ.alike Ar16.2.1) Ar16.2.2 hin16 hat16 (g := (mkF m 19 #[.val (.ref ar), .val (.int (own_mx (own_mx (0 : Int32) (v0 + (1 : Int32))) (v1 + (1 : Int32)))), .val (.ref ar), .val (.int (3 : Int32)), .val (.int (2 : Int32)), .val (.int v1)] [(.int (2 : Int32)), (.ref ar)])) rfl rfl (hb hby d1_19)) ?_
  show own_Go _ _ _ _ (T15.setTop (mkF m 20 #[.val (.ref ar), .val (.int (own_mx (own_mx (0 : Int32) (v0 + (1 : Int32))) (v1 + (1 : Int32)))), .val (.ref ar), .val (.int (3 : Int32)), .val (.int (2 : Int32)), .val (.int v1)] [(.int v2)]))
  refine own_st (fun _ k => XS.istore X15.here hx rfl (hb hby d1_20) rfl (l' := #[.val (.ref ar), .val (.int (own_mx (own_mx (0 : Int32) (v0 + (1 : Int32))) (v1 + (1 : Int32)))), .val (.ref ar), .val (.int (3 : Int32)), .val (.int (2 : Int32)), .val (.int v2)]) rfl k) ?_
  show own_Go _ _ _ _ (T15.setTop (mkF m 22 #[.val (.ref ar), .val (.int (own_mx (own_mx (0 : Int32) (v0 + (1 : Int32))) (v1 + (1 : Int32)))), .val (.ref ar), .val (.int (3 : Int32)), .val (.int (2 : Int32)), .val (.int v2)] []))
  refine own_st (fun _ k => XS.iloadN X15.here hx rfl (hb hby d1_22) rfl k) ?_
  show own_Go _ _ _ _ (T15.setTop (mkF m 23 #[.val (.ref ar), .val (.int (own_mx (own_mx (0 : Int32) (v0 + (1 : Int32))) (v1 + (1 : Int32)))), .val (.ref ar), .val (.int (3 : Int32)), .val (.int (2 : Int32)), .val (.int v2)] [(.int (own_mx (own_mx (0 : Int32) (v0 + (1 : Int32))) (v1 + (1 : Int32))))]))
  refine own_st (fun _ k => XS.iload X15.here hx rfl (hb hby d1_23) rfl k) ?_
  show own_Go _ _ _ _ (T15.setTop (mkF m 25 #[.val (.ref ar), .val (.int (own_mx (own_mx (0 : Int32) (v0 + (1 : Int32))) (v1 + (1 : Int32)))), .val (.ref ar), .val (.int (3 : Int32)), .val (.int (2 : Int32)), .val (.int v2)] [(.int v2), (.int (own_mx (own_mx (0 : Int32) (v0 + (1 : Int32))) (v1 + (1 : Int32))))]))
  refine own_st (fun _ k => XS.iconst X15.here hx rfl (hb hby d1_25) k) ?_
  show own_Go _ _ _ _ (T15.setTop (mkF m 26 #[.val (.ref ar), .val (.int (own_mx (own_mx (0 : Int32) (v0 + (1 : Int32))) (v1 + (1 : Int32)))), .val (.ref ar), .val (.int (3 : Int32)), .val (.int (2 : Int32)), .val (.int v2)] [(.int (1 : Int32)), (.int v2), (.int (own_mx (own_mx (0 : Int32) (v0 + (1 : Int32))) (v1 + (1 : Int32))))]))
  refine own_st (fun _ k => XS.iadd X15.here hx rfl (hb hby d1_26) rfl k) ?_
  show own_Go _ _ _ _ (T15.setTop (mkF m 27 #[.val (.ref ar), .val (.int (own_mx (own_mx (0 : Int32) (v0 + (1 : Int32))) (v1 + (1 : Int32)))), .val (.ref ar), .val (.int (3 : Int32)), .val (.int (2 : Int32)), .val (.int v2)] [(.int (v2 + (1 : Int32))), (.int (own_mx (own_mx (0 : Int32) (v0 + (1 : Int32))) (v1 + (1 : Int32))))]))
  obtain ⟨_, _, ⟨T17, L17, k17, n17⟩, -, X17, ⟨Lc17, hQ17, l17, y17, z17⟩, st17⟩ := Jvm.LawKit.callS X15 hx (y := (⟨"java/lang/Math", "max", "(II)I"⟩ : MethodName)) hown (mvT hZ (hw _ (List.mem_of_getElem? (i := 6) rfl))) (mvT hZ (hw _ (List.mem_of_getElem? (i := 7) rfl))) (mvT hZ (hw _ (List.mem_of_getElem? (i := 8) rfl))) (mvT hZ (hw _ (List.mem_of_getElem? (i := 9) rfl))) (by decide) (backOf (W := 0) (rm2 l Z a0 hw [] (own_mx (own_mx (0 : Int32) (v0 + (1 : Int32))) (v1 + (1 : Int32))) (v2 + (1 : Int32)) h0 n0 Z0 ) hZ (hw _ (List.mem_of_getElem? (i := 9) rfl)) (hw _ (List.mem_of_getElem? (i := 8) rfl)) (by decide) (by decide)) (g := (mkF m 27 #[.val (.ref ar), .val (.int (own_mx (own_mx (0 : Int32) (v0 + (1 : Int32))) (v1 + (1 : Int32)))), .val (.ref ar), .val (.int (3 : Int32)), .val (.int (2 : Int32)), .val (.int v2)] [(.int (v2 + (1 : Int32))), (.int (own_mx (own_mx (0 : Int32) (v0 + (1 : Int32))) (v1 + (1 : Int32))))])) rfl (by rw [hml]; rfl) (argsL := [(.int (own_mx (own_mx (0 : Int32) (v0 + (1 : Int32))) (v1 + (1 : Int32)))), (.int (v2 + (1 : Int32)))]) (rest := []) (lenOf own_pd0 rfl) rfl (by show 2 * 0 + _ ≤ _; exact Nat.le_of_eq rfl) (hb hby d1_27) (fun _ _ => ⟨rfl, eq15, (by decide : 0 + 0 ≤ _), (by decide : 0 + 0 ≤ _)⟩)
  dsimp only [Pt.U, Pt.locs, Pt.cells, Pt.slots] at X17 l17 y17 z17 st17 hQ17
  subst l17 y17 z17
  obtain ⟨rfl, Nq17, eq17⟩ := hQ17
  have N17 := Fr.app N15 Nq17
  refine own_st st17 ?_
  show own_Go _ _ _ _ (T17.setTop (mkF m 30 #[.val (.ref ar), .val (.int (own_mx (own_mx (0 : Int32) (v0 + (1 : Int32))) (v1 + (1 : Int32)))), .val (.ref ar), .val (.int (3 : Int32)), .val (.int (2 : Int32)), .val (.int v2)] [(.int (own_mx (own_mx (own_mx (0 : Int32) (v0 + (1 : Int32))) (v1 + (1 : Int32))) (v2 + (1 : Int32))))]))
  refine own_st (fun _ k => XS.istoreN X17.here hx rfl (hb hby d1_30) rfl (l' := #[.val (.ref ar), .val (.int (own_mx (own_mx (own_mx (0 : Int32) (v0 + (1 : Int32))) (v1 + (1 : Int32))) (v2 + (1 : Int32)))), .val (.ref ar), .val (.int (3 : Int32)), .val (.int (2 : Int32)), .val (.int v2)]) rfl k) ?_
  show own_Go _ _ _ _ (T17.setTop (mkF m 31 #[.val (.ref ar), .val (.int (own_mx (own_mx (own_mx (0 : Int32) (v0 + (1 : Int32))) (v1 + (1 : Int32))) (v2 + (1 : Int32)))), .val (.ref ar), .val (.int (3 : Int32)), .val (.int (2 : Int32)), .val (.int v2)] []))
  refine own_st (fun _ k => XS.iinc X17.here hx rfl (hb hby d1_31) rfl (l' := #[.val (.ref ar), .val (.int (own_mx (own_mx (own_mx (0 : Int32) (v0 + (1 : Int32))) (v1 + (1 : Int32))) (v2 + (1 : Int32)))), .val (.ref ar), .val (.int (3 : Int32)), .val (.int (3 : Int32)), .val (.int v2)]) rfl k) ?_
  show own_Go _ _ _ _ (T17.setTop (mkF m 34 #[.val (.ref ar), .val (.int (own_mx (own_mx (own_mx (0 : Int32) (v0 + (1 : Int32))) (v1 + (1 : Int32))) (v2 + (1 : Int32)))), .val (.ref ar), .val (.int (3 : Int32)), .val (.int (3 : Int32)), .val (.int v2)] []))
  refine own_st (fun _ k => XS.goto X17.here hx rfl (pc0 := 34) (pc' := 10) rfl (hb hby d1_34) (by decide) (by decide) k) ?_
  show own_Go _ _ _ _ (T17.setTop (mkF m 10 #[.val (.ref ar), .val (.int (own_mx (own_mx (own_mx (0 : Int32) (v0 + (1 : Int32))) (v1 + (1 : Int32))) (v2 + (1 : Int32)))), .val (.ref ar), .val (.int (3 : Int32)), .val (.int (3 : Int32)), .val (.int v2)] []))
  refine own_st (fun _ k => XS.iload X17.here hx rfl (hb hby d1_10) rfl k) ?_
  show own_Go _ _ _ _ (T17.setTop (mkF m 12 #[.val (.ref ar), .val (.int (own_mx (own_mx (own_mx (0 : Int32) (v0 + (1 : Int32))) (v1 + (1 : Int32))) (v2 + (1 : Int32)))), .val (.ref ar), .val (.int (3 : Int32)), .val (.int (3 : Int32)), .val (.int v2)] [(.int (3 : Int32))]))
  refine own_st (fun _ k => XS.iloadN X17.here hx rfl (hb hby d1_12) rfl k) ?_
  show own_Go _ _ _ _ (T17.setTop (mkF m 13 #[.val (.ref ar), .val (.int (own_mx (own_mx (own_mx (0 : Int32) (v0 + (1 : Int32))) (v1 + (1 : Int32))) (v2 + (1 : Int32)))), .val (.ref ar), .val (.int (3 : Int32)), .val (.int (3 : Int32)), .val (.int v2)] [(.int (3 : Int32)), (.int (3 : Int32))]))
  refine own_st (fun _ k => XS.icmpYes X17.here hx rfl (pc0 := 13) (pc' := 37) rfl (hb hby d1_13) rfl (flt (by decide : ¬ ((3 : Int32) < (3 : Int32)))).2.1 (by decide) (by decide) k) ?_
  show own_Go _ _ _ _ (T17.setTop (mkF m 37 #[.val (.ref ar), .val (.int (own_mx (own_mx (own_mx (0 : Int32) (v0 + (1 : Int32))) (v1 + (1 : Int32))) (v2 + (1 : Int32)))), .val (.ref ar), .val (.int (3 : Int32)), .val (.int (3 : Int32)), .val (.int v2)] []))
  refine own_st (fun _ k => XS.iloadN X17.here hx rfl (hb hby d1_37) rfl k) ?_
  show own_Go _ _ _ _ (T17.setTop (mkF m 38 #[.val (.ref ar), .val (.int (own_mx (own_mx (own_mx (0 : Int32) (v0 + (1 : Int32))) (v1 + (1 : Int32))) (v2 + (1 : Int32)))), .val (.ref ar), .val (.int (3 : Int32)), .val (.int (3 : Int32)), .val (.int v2)] [(.int (own_mx (own_mx (own_mx (0 : Int32) (v0 + (1 : Int32))) (v1 + (1 : Int32))) (v2 + (1 : Int32))))]))
  obtain ⟨fs, hr, hrun, hended, hW, hsame⟩ := X17.leave (v := some (.int (own_mx (own_mx (own_mx (0 : Int32) (v0 + (1 : Int32))) (v1 + (1 : Int32))) (v2 + (1 : Int32))))) (fun h => by rw [Bd.returns] at h; cases h)
  refine own_out (own_retI X17 hx Bd.returns (hb hby d1_38) hr) ⟨hrun, hended, _, _, rfl, ?_, ⟨_, rfl⟩, hW, hsame.mono (by decide) (by decide)⟩
  show Q1_3 Z ar kk v0 v1 v2 h0 n0 _ T17.heap _
  have hv : own_cc3 v0 v1 v2 = (own_mx (own_mx (own_mx (0 : Int32) (v0 + (1 : Int32))) (v1 + (1 : Int32))) (v2 + (1 : Int32))) := rfl
  exact ⟨by rw [hv], N17, eq17⟩
def own_cc4 (v0 : Int32) (v1 : Int32) (v2 : Int32) (v3 : Int32) : Int32 := (own_mx (own_mx (own_mx (own_mx (0 : Int32) (v0 + (1 : Int32))) (v1 + (1 : Int32))) (v2 + (1 : Int32))) (v3 + (1 : Int32)))
def Q1_4 (Z : State) (ar : Addr) (kk : ClassId) (v0 : Int32) (v1 : Int32) (v2 : Int32) (v3 : Int32) (h0 : Heap) (n0 : Nat) (v : Option Value) (h : Heap) (L : List Loc) : Prop := v = some (.int (own_cc4 v0 v1 v2 v3)) ∧ Fr n0 L ∧ h = h0
theorem ef_1_4 (m : MethodId) (x0 : Addr) : entryFrame m #[(.ref x0)] 6 = mkF m 0 #[.val (.ref x0), .unset, .unset, .unset, .unset, .unset] [] := by first | (simp [entryFrame, mkF, argsToLocals, Value.category]; done) | rfl
set_option maxRecDepth 65536 in
set_option maxHeartbeats 40000000 in
theorem rm1_4 (l : Launch) (Z : State) (a0 : Array Value) (hw : ∀ d ∈ tables_1, d.before a0 Z = true) (ws : List Jvm.Cond) (ar : Addr) (kk : ClassId) (v0 : Int32) (v1 : Int32) (v2 : Int32) (v3 : Int32) (h0 : Heap) (n0 : Nat) (Z0 : n0 ≤ h0.size) (V_ar : Arv Z h0 ar kk .int (4 : Int32) [.int v0, .int v1, .int v2, .int v3] (.int (0 : Int32))) :
    MetFree l (⟨"com/example/barred_owl/barredowl/Embedding", "componentCount", "([I)I"⟩ : MethodName) (head1 (Jvm.Cond.code (⟨"com/example/barred_owl/barredowl/Embedding", "componentCount", "([I)I"⟩ : MethodName) prog_25_method_17_code 6 (some .int) :: ws) ({ frames := 1, cells := 0, slots := 0, locals := 20 } : Room)) (fun a U => a = #[(.ref ar)] ∧ Z.Warmed39 U.vm ∧ U.heap = h0) (fun _ _ _ _ _ => True) (fun _ U o U' => ∃ v L, o = .returned v ∧ Q1_4 Z ar kk v0 v1 v2 v3 h0 n0 v U'.heap L ∧ FrameEnd U o U' L ({ frames := 1, cells := 0, slots := 0, locals := 20 } : Room).cells ({ frames := 1, cells := 0, slots := 0, locals := 20 } : Room).slots) := by
  refine MetFree.of_bodySF (plainFor_of_name own_pn0) hisR ?_
  intro p e s m args below meth c s₁ Bd hml0 hP hK
  obtain ⟨rfl, hZ, hh⟩ := hP
  have hx := Bd.exec
  have hby := Bd.bytes
  have hml : c.maxLocals = 6 := hml0
  have hown : s.vm.findClass "com/example/barred_owl/barredowl/Embedding" = some m.cls := findClass_of_methodNamed Bd.named
  have hnm := (name_of_methodNamed Bd.named Bd.method).1
  have X0 : Stand p l e ({ frames := 1, cells := 0, slots := 0, locals := 20 } : Room) s m #[(.ref ar)] below meth c s₁ [] 0 0 := Stand.of_body Bd
  have e0 : s₁.heap = h0 := by rw [← hh, Bd.state]; rfl
  have N0 := Fr.nil n0
  refine own_in ?_
  refine own_st (fun _ k => castTop (ef_1_4 m ar) k) ?_
  have K0 : Keep h0 h0 [] := Keep.refl h0 []
  show own_Go _ _ _ _ (s₁.setTop (mkF m 0 #[.val (.ref ar), .unset, .unset, .unset, .unset, .unset] []))
  refine own_st (fun _ k => XS.iconst X0.here hx rfl (hb hby d1_0) k) ?_
  show own_Go _ _ _ _ (s₁.setTop (mkF m 1 #[.val (.ref ar), .unset, .unset, .unset, .unset, .unset] [(.int (0 : Int32))]))
  refine own_st (fun _ k => XS.istoreN X0.here hx rfl (hb hby d1_1) rfl (l' := #[.val (.ref ar), .val (.int (0 : Int32)), .unset, .unset, .unset, .unset]) rfl k) ?_
  show own_Go _ _ _ _ (s₁.setTop (mkF m 2 #[.val (.ref ar), .val (.int (0 : Int32)), .unset, .unset, .unset, .unset] []))
  refine own_st (fun _ k => XS.aloadN X0.here hx rfl (hb hby d1_2) rfl rfl k) ?_
  show own_Go _ _ _ _ (s₁.setTop (mkF m 3 #[.val (.ref ar), .val (.int (0 : Int32)), .unset, .unset, .unset, .unset] [(.ref ar)]))
  refine own_st (fun _ k => XS.astoreN X0.here hx rfl (hb hby d1_3) rfl rfl (l' := #[.val (.ref ar), .val (.int (0 : Int32)), .val (.ref ar), .unset, .unset, .unset]) rfl k) ?_
  show own_Go _ _ _ _ (s₁.setTop (mkF m 4 #[.val (.ref ar), .val (.int (0 : Int32)), .val (.ref ar), .unset, .unset, .unset] []))
  refine own_st (fun _ k => XS.aloadN X0.here hx rfl (hb hby d1_4) rfl rfl k) ?_
  show own_Go _ _ _ _ (s₁.setTop (mkF m 5 #[.val (.ref ar), .val (.int (0 : Int32)), .val (.ref ar), .unset, .unset, .unset] [(.ref ar)]))
  obtain ⟨cl18, Ar18, -, Sz18, Nn18, -, -⟩ := id V_ar
  refine own_st (X0.arraylength hx (by rw [e0]; exact Ar18.1) (State.isArrayOf_alike hZ.alike Ar18.2.1) (g := (mkF m 5 #[.val (.ref ar), .val (.int (0 : Int32)), .val (.ref ar), .unset, .unset, .unset] [(.ref ar)])) rfl rfl (hb hby d1_5)) ?_
  rw [len_of Sz18 Nn18]
  show own_Go _ _ _ _ (s₁.setTop (mkF m 6 #[.val (.ref ar), .val (.int (0 : Int32)), .val (.ref ar), .unset, .unset, .unset] [(.int (4 : Int32))]))
  refine own_st (fun _ k => XS.istoreN X0.here hx rfl (hb hby d1_6) rfl (l' := #[.val (.ref ar), .val (.int (0 : Int32)), .val (.ref ar), .val (.int (4 : Int32)), .unset, .unset]) rfl k) ?_
  show own_Go _ _ _ _ (s₁.setTop (mkF m 7 #[.val (.ref ar), .val (.int (0 : Int32)), .val (.ref ar), .val (.int (4 : Int32)), .unset, .unset] []))
  refine own_st (fun _ k => XS.iconst X0.here hx rfl (hb hby d1_7) k) ?_
  show own_Go _ _ _ _ (s₁.setTop (mkF m 8 #[.val (.ref ar), .val (.int (0 : Int32)), .val (.ref ar), .val (.int (4 : Int32)), .unset, .unset] [(.int (0 : Int32))]))
  refine own_st (fun _ k => XS.istore X0.here hx rfl (hb hby d1_8) rfl (l' := #[.val (.ref ar), .val (.int (0 : Int32)), .val (.ref ar), .val (.int (4 : Int32)), .val (.int (0 : Int32)), .unset]) rfl k) ?_
  show own_Go _ _ _ _ (s₁.setTop (mkF m 10 #[.val (.ref ar), .val (.int (0 : Int32)), .val (.ref ar), .val (.int (4 : Int32)), .val (.int (0 : Int32)), .unset] []))
  refine own_st (fun _ k => XS.iload X0.here hx rfl (hb hby d1_10) rfl k) ?_
  show own_Go _ _ _ _ (s₁.setTop (mkF m 12 #[.val (.ref ar), .val (.int (0 : Int32)), .val (.ref ar), .val (.int (4 : Int32)), .val (.int (0 : Int32)), .unset] [(.int (0 : Int32))]))
  refine own_st (fun _ k => XS.iloadN X0.here hx rfl (hb hby d1_12) rfl k) ?_
  show own_Go _ _ _ _ (s₁.setTop (mkF m 13 #[.val (.ref ar), .val (.int (0 : Int32)), .val (.ref ar), .val (.int (4 : Int32)), .val (.int (0 : Int32)), .unset] [(.int (4 : Int32)), (.int (0 : Int32))]))
  refine own_st (fun _ k => XS.icmpNo X0.here hx rfl (hb hby d1_13) rfl (tlt (by decide : ((0 : Int32) < (4 : Int32)))).2.1 k) ?_
  show own_Go _ _ _ _ (s₁.setTop (mkF m 16 #[.val (.ref ar), .val (.int (0 : Int32)), .val (.ref ar), .val (.int (4 : Int32)), .val (.int (0 : Int32)), .unset] []))
  refine own_st (fun _ k => XS.aloadN X0.here hx rfl (hb hby d1_16) rfl rfl k) ?_
  show own_Go _ _ _ _ (s₁.setTop (mkF m 17 #[.val (.ref ar), .val (.int (0 : Int32)), .val (.ref ar), .val (.int (4 : Int32)), .val (.int (0 : Int32)), .unset] [(.ref ar)]))
  refine own_st (fun _ k => XS.iload X0.here hx rfl (hb hby d1_17) rfl k) ?_
  show own_Go _ _ _ _ (s₁.setTop (mkF m 19 #[.val (.ref ar), .val (.int (0 : Int32)), .val (.ref ar), .val (.int (4 : Int32)), .val (.int (0 : Int32)), .unset] [(.int (0 : Int32)), (.ref ar)]))
  obtain ⟨cl19, Ar19, -, Sz19, Nn19, Hs19, -⟩ := id V_ar
  have hin19 : ¬ ((0 : Int32) < 0 ∨ cl19.slots.size ≤ ((0 : Int32)).toNatClampNeg) := inb_of Sz19 ⟨(by decide : ¬ ((0 : Int32) < (0 : Int32))), (by decide : (0 : Int32) < (4 : Int32))⟩
  have hat19 : cl19.slots[((0 : Int32)).toNatClampNeg]? = some (.int v0) := Hs19.at hin19 rfl
  refine own_st (X0.iaload hx (j := (0 : Int32)) (v := (.int v0)) (by rw [e0]; exact Ar19.1) (State.isArrayOf_alike hZ.alike Ar19.2.1) Ar19.2.2 hin19 hat19 (g := (mkF m 19 #[.val (.ref ar), .val (.int (0 : Int32)), .val (.ref ar), .val (.int (4 : Int32)), .val (.int (0 : Int32)), .unset] [(.int (0 : Int32)), (.ref ar)])) rfl rfl (hb hby d1_19)) ?_
  show own_Go _ _ _ _ (s₁.setTop (mkF m 20 #[.val (.ref ar), .val (.int (0 : Int32)), .val (.ref ar), .val (.int (4 : Int32)), .val (.int (0 : Int32)), .unset] [(.int v0)]))
  refine own_st (fun _ k => XS.istore X0.here hx rfl (hb hby d1_20) rfl (l' := #[.val (.ref ar), .val (.int (0 : Int32)), .val (.ref ar), .val (.int (4 : Int32)), .val (.int (0 : Int32)), .val (.int v0)]) rfl k) ?_
  show own_Go _ _ _ _ (s₁.setTop (mkF m 22 #[.val (.ref ar), .val (.int (0 : Int32)), .val (.ref ar), .val (.int (4 : Int32)), .val (.int (0 : Int32)), .val (.int v0)] []))
  refine own_st (fun _ k => XS.iloadN X0.here hx rfl (hb hby d1_22) rfl k) ?_
  show own_Go _ _ _ _ (s₁.setTop (mkF m 23 #[.val (.ref ar), .val (.int (0 : Int32)), .val (.ref ar), .val (.int (4 : Int32)), .val (.int (0 : Int32)), .val (.int v0)] [(.int (0 : Int32))]))
  refine own_st (fun _ k => XS.iload X0.here hx rfl (hb hby d1_23) rfl k) ?_
  show own_Go _ _ _ _ (s₁.setTop (mkF m 25 #[.val (.ref ar), .val (.int (0 : Int32)), .val (.ref ar), .val (.int (4 : Int32)), .val (.int (0 : Int32)), .val (.int v0)] [(.int v0), (.int (0 : Int32))]))
  refine own_st (fun _ k => XS.iconst X0.here hx rfl (hb hby d1_25) k) ?_
  show own_Go _ _ _ _ (s₁.setTop (mkF m 26 #[.val (.ref ar), .val (.int (0 : Int32)), .val (.ref ar), .val (.int (4 : Int32)), .val (.int (0 : Int32)), .val (.int v0)] [(.int (1 : Int32)), (.int v0), (.int (0 : Int32))]))
  refine own_st (fun _ k => XS.iadd X0.here hx rfl (hb hby d1_26) rfl k) ?_
  show own_Go _ _ _ _ (s₁.setTop (mkF m 27 #[.val (.ref ar), .val (.int (0 : Int32)), .val (.ref ar), .val (.int (4 : Int32)), .val (.int (0 : Int32)), .val (.int v0)] [(.int (v0 + (1 : Int32))), (.int (0 : Int32))]))
  obtain ⟨_, _, ⟨T20, L20, k20, n20⟩, -, X20, ⟨Lc20, hQ20, l20, y20, z20⟩, st20⟩ := Jvm.LawKit.callS X0 hx (y := (⟨"java/lang/Math", "max", "(II)I"⟩ : MethodName)) hown (mvT hZ (hw _ (List.mem_of_getElem? (i := 6) rfl))) (mvT hZ (hw _ (List.mem_of_getElem? (i := 7) rfl))) (mvT hZ (hw _ (List.mem_of_getElem? (i := 8) rfl))) (mvT hZ (hw _ (List.mem_of_getElem? (i := 9) rfl))) (by decide) (backOf (W := 0) (rm2 l Z a0 hw [] (0 : Int32) (v0 + (1 : Int32)) h0 n0 Z0 ) hZ (hw _ (List.mem_of_getElem? (i := 9) rfl)) (hw _ (List.mem_of_getElem? (i := 8) rfl)) (by decide) (by decide)) (g := (mkF m 27 #[.val (.ref ar), .val (.int (0 : Int32)), .val (.ref ar), .val (.int (4 : Int32)), .val (.int (0 : Int32)), .val (.int v0)] [(.int (v0 + (1 : Int32))), (.int (0 : Int32))])) rfl (by rw [hml]; rfl) (argsL := [(.int (0 : Int32)), (.int (v0 + (1 : Int32)))]) (rest := []) (lenOf own_pd0 rfl) rfl (by show 2 * 0 + _ ≤ _; exact Nat.le_of_eq rfl) (hb hby d1_27) (fun _ _ => ⟨rfl, e0, (by decide : 0 + 0 ≤ _), (by decide : 0 + 0 ≤ _)⟩)
  dsimp only [Pt.U, Pt.locs, Pt.cells, Pt.slots] at X20 l20 y20 z20 st20 hQ20
  subst l20 y20 z20
  obtain ⟨rfl, Nq20, eq20⟩ := hQ20
  have N20 := Fr.app N0 Nq20
  refine own_st st20 ?_
  show own_Go _ _ _ _ (T20.setTop (mkF m 30 #[.val (.ref ar), .val (.int (0 : Int32)), .val (.ref ar), .val (.int (4 : Int32)), .val (.int (0 : Int32)), .val (.int v0)] [(.int (own_mx (0 : Int32) (v0 + (1 : Int32))))]))
  refine own_st (fun _ k => XS.istoreN X20.here hx rfl (hb hby d1_30) rfl (l' := #[.val (.ref ar), .val (.int (own_mx (0 : Int32) (v0 + (1 : Int32)))), .val (.ref ar), .val (.int (4 : Int32)), .val (.int (0 : Int32)), .val (.int v0)]) rfl k) ?_
  show own_Go _ _ _ _ (T20.setTop (mkF m 31 #[.val (.ref ar), .val (.int (own_mx (0 : Int32) (v0 + (1 : Int32)))), .val (.ref ar), .val (.int (4 : Int32)), .val (.int (0 : Int32)), .val (.int v0)] []))
  refine own_st (fun _ k => XS.iinc X20.here hx rfl (hb hby d1_31) rfl (l' := #[.val (.ref ar), .val (.int (own_mx (0 : Int32) (v0 + (1 : Int32)))), .val (.ref ar), .val (.int (4 : Int32)), .val (.int (1 : Int32)), .val (.int v0)]) rfl k) ?_
  show own_Go _ _ _ _ (T20.setTop (mkF m 34 #[.val (.ref ar), .val (.int (own_mx (0 : Int32) (v0 + (1 : Int32)))), .val (.ref ar), .val (.int (4 : Int32)), .val (.int (1 : Int32)), .val (.int v0)] []))
  refine own_st (fun _ k => XS.goto X20.here hx rfl (pc0 := 34) (pc' := 10) rfl (hb hby d1_34) (by decide) (by decide) k) ?_
  show own_Go _ _ _ _ (T20.setTop (mkF m 10 #[.val (.ref ar), .val (.int (own_mx (0 : Int32) (v0 + (1 : Int32)))), .val (.ref ar), .val (.int (4 : Int32)), .val (.int (1 : Int32)), .val (.int v0)] []))
  refine own_st (fun _ k => XS.iload X20.here hx rfl (hb hby d1_10) rfl k) ?_
  show own_Go _ _ _ _ (T20.setTop (mkF m 12 #[.val (.ref ar), .val (.int (own_mx (0 : Int32) (v0 + (1 : Int32)))), .val (.ref ar), .val (.int (4 : Int32)), .val (.int (1 : Int32)), .val (.int v0)] [(.int (1 : Int32))]))
  refine own_st (fun _ k => XS.iloadN X20.here hx rfl (hb hby d1_12) rfl k) ?_
  show own_Go _ _ _ _ (T20.setTop (mkF m 13 #[.val (.ref ar), .val (.int (own_mx (0 : Int32) (v0 + (1 : Int32)))), .val (.ref ar), .val (.int (4 : Int32)), .val (.int (1 : Int32)), .val (.int v0)] [(.int (4 : Int32)), (.int (1 : Int32))]))
  refine own_st (fun _ k => XS.icmpNo X20.here hx rfl (hb hby d1_13) rfl (tlt (by decide : ((1 : Int32) < (4 : Int32)))).2.1 k) ?_
  show own_Go _ _ _ _ (T20.setTop (mkF m 16 #[.val (.ref ar), .val (.int (own_mx (0 : Int32) (v0 + (1 : Int32)))), .val (.ref ar), .val (.int (4 : Int32)), .val (.int (1 : Int32)), .val (.int v0)] []))
  refine own_st (fun _ k => XS.aloadN X20.here hx rfl (hb hby d1_16) rfl rfl k) ?_
  show own_Go _ _ _ _ (T20.setTop (mkF m 17 #[.val (.ref ar), .val (.int (own_mx (0 : Int32) (v0 + (1 : Int32)))), .val (.ref ar), .val (.int (4 : Int32)), .val (.int (1 : Int32)), .val (.int v0)] [(.ref ar)]))
  refine own_st (fun _ k => XS.iload X20.here hx rfl (hb hby d1_17) rfl k) ?_
  show own_Go _ _ _ _ (T20.setTop (mkF m 19 #[.val (.ref ar), .val (.int (own_mx (0 : Int32) (v0 + (1 : Int32)))), .val (.ref ar), .val (.int (4 : Int32)), .val (.int (1 : Int32)), .val (.int v0)] [(.int (1 : Int32)), (.ref ar)]))
  obtain ⟨cl21, Ar21, -, Sz21, Nn21, Hs21, -⟩ := id V_ar
  have hin21 : ¬ ((1 : Int32) < 0 ∨ cl21.slots.size ≤ ((1 : Int32)).toNatClampNeg) := inb_of Sz21 ⟨(by decide : ¬ ((1 : Int32) < (0 : Int32))), (by decide : (1 : Int32) < (4 : Int32))⟩
  have hat21 : cl21.slots[((1 : Int32)).toNatClampNeg]? = some (.int v1) := Hs21.at hin21 rfl
  refine own_st (X20.iaload hx (j := (1 : Int32)) (v := (.int v1)) (by rw [eq20]; exact Ar21.1) (State.isArrayOf_alike hZ.alike Ar21.2.1) Ar21.2.2 hin21 hat21 (g := (mkF m 19 #[.val (.ref ar), .val (.int (own_mx (0 : Int32) (v0 + (1 : Int32)))), .val (.ref ar), .val (.int (4 : Int32)), .val (.int (1 : Int32)), .val (.int v0)] [(.int (1 : Int32)), (.ref ar)])) rfl rfl (hb hby d1_19)) ?_
  show own_Go _ _ _ _ (T20.setTop (mkF m 20 #[.val (.ref ar), .val (.int (own_mx (0 : Int32) (v0 + (1 : Int32)))), .val (.ref ar), .val (.int (4 : Int32)), .val (.int (1 : Int32)), .val (.int v0)] [(.int v1)]))
  refine own_st (fun _ k => XS.istore X20.here hx rfl (hb hby d1_20) rfl (l' := #[.val (.ref ar), .val (.int (own_mx (0 : Int32) (v0 + (1 : Int32)))), .val (.ref ar), .val (.int (4 : Int32)), .val (.int (1 : Int32)), .val (.int v1)]) rfl k) ?_
  show own_Go _ _ _ _ (T20.setTop (mkF m 22 #[.val (.ref ar), .val (.int (own_mx (0 : Int32) (v0 + (1 : Int32)))), .val (.ref ar), .val (.int (4 : Int32)), .val (.int (1 : Int32)), .val (.int v1)] []))
  refine own_st (fun _ k => XS.iloadN X20.here hx rfl (hb hby d1_22) rfl k) ?_
  show own_Go _ _ _ _ (T20.setTop (mkF m 23 #[.val (.ref ar), .val (.int (own_mx (0 : Int32) (v0 + (1 : Int32)))), .val (.ref ar), .val (.int (4 : Int32)), .val (.int (1 : Int32)), .val (.int v1)] [(.int (own_mx (0 : Int32) (v0 + (1 : Int32))))]))
  refine own_st (fun _ k => XS.iload X20.here hx rfl (hb hby d1_23) rfl k) ?_
  show own_Go _ _ _ _ (T20.setTop (mkF m 25 #[.val (.ref ar), .val (.int (own_mx (0 : Int32) (v0 + (1 : Int32)))), .val (.ref ar), .val (.int (4 : Int32)), .val (.int (1 : Int32)), .val (.int v1)] [(.int v1), (.int (own_mx (0 : Int32) (v0 + (1 : Int32))))]))
  refine own_st (fun _ k => XS.iconst X20.here hx rfl (hb hby d1_25) k) ?_
  show own_Go _ _ _ _ (T20.setTop (mkF m 26 #[.val (.ref ar), .val (.int (own_mx (0 : Int32) (v0 + (1 : Int32)))), .val (.ref ar), .val (.int (4 : Int32)), .val (.int (1 : Int32)), .val (.int v1)] [(.int (1 : Int32)), (.int v1), (.int (own_mx (0 : Int32) (v0 + (1 : Int32))))]))
  refine own_st (fun _ k => XS.iadd X20.here hx rfl (hb hby d1_26) rfl k) ?_
  show own_Go _ _ _ _ (T20.setTop (mkF m 27 #[.val (.ref ar), .val (.int (own_mx (0 : Int32) (v0 + (1 : Int32)))), .val (.ref ar), .val (.int (4 : Int32)), .val (.int (1 : Int32)), .val (.int v1)] [(.int (v1 + (1 : Int32))), (.int (own_mx (0 : Int32) (v0 + (1 : Int32))))]))
  obtain ⟨_, _, ⟨T22, L22, k22, n22⟩, -, X22, ⟨Lc22, hQ22, l22, y22, z22⟩, st22⟩ := Jvm.LawKit.callS X20 hx (y := (⟨"java/lang/Math", "max", "(II)I"⟩ : MethodName)) hown (mvT hZ (hw _ (List.mem_of_getElem? (i := 6) rfl))) (mvT hZ (hw _ (List.mem_of_getElem? (i := 7) rfl))) (mvT hZ (hw _ (List.mem_of_getElem? (i := 8) rfl))) (mvT hZ (hw _ (List.mem_of_getElem? (i := 9) rfl))) (by decide) (backOf (W := 0) (rm2 l Z a0 hw [] (own_mx (0 : Int32) (v0 + (1 : Int32))) (v1 + (1 : Int32)) h0 n0 Z0 ) hZ (hw _ (List.mem_of_getElem? (i := 9) rfl)) (hw _ (List.mem_of_getElem? (i := 8) rfl)) (by decide) (by decide)) (g := (mkF m 27 #[.val (.ref ar), .val (.int (own_mx (0 : Int32) (v0 + (1 : Int32)))), .val (.ref ar), .val (.int (4 : Int32)), .val (.int (1 : Int32)), .val (.int v1)] [(.int (v1 + (1 : Int32))), (.int (own_mx (0 : Int32) (v0 + (1 : Int32))))])) rfl (by rw [hml]; rfl) (argsL := [(.int (own_mx (0 : Int32) (v0 + (1 : Int32)))), (.int (v1 + (1 : Int32)))]) (rest := []) (lenOf own_pd0 rfl) rfl (by show 2 * 0 + _ ≤ _; exact Nat.le_of_eq rfl) (hb hby d1_27) (fun _ _ => ⟨rfl, eq20, (by decide : 0 + 0 ≤ _), (by decide : 0 + 0 ≤ _)⟩)
  dsimp only [Pt.U, Pt.locs, Pt.cells, Pt.slots] at X22 l22 y22 z22 st22 hQ22
  subst l22 y22 z22
  obtain ⟨rfl, Nq22, eq22⟩ := hQ22
  have N22 := Fr.app N20 Nq22
  refine own_st st22 ?_
  show own_Go _ _ _ _ (T22.setTop (mkF m 30 #[.val (.ref ar), .val (.int (own_mx (0 : Int32) (v0 + (1 : Int32)))), .val (.ref ar), .val (.int (4 : Int32)), .val (.int (1 : Int32)), .val (.int v1)] [(.int (own_mx (own_mx (0 : Int32) (v0 + (1 : Int32))) (v1 + (1 : Int32))))]))
  refine own_st (fun _ k => XS.istoreN X22.here hx rfl (hb hby d1_30) rfl (l' := #[.val (.ref ar), .val (.int (own_mx (own_mx (0 : Int32) (v0 + (1 : Int32))) (v1 + (1 : Int32)))), .val (.ref ar), .val (.int (4 : Int32)), .val (.int (1 : Int32)), .val (.int v1)]) rfl k) ?_
  show own_Go _ _ _ _ (T22.setTop (mkF m 31 #[.val (.ref ar), .val (.int (own_mx (own_mx (0 : Int32) (v0 + (1 : Int32))) (v1 + (1 : Int32)))), .val (.ref ar), .val (.int (4 : Int32)), .val (.int (1 : Int32)), .val (.int v1)] []))
  refine own_st (fun _ k => XS.iinc X22.here hx rfl (hb hby d1_31) rfl (l' := #[.val (.ref ar), .val (.int (own_mx (own_mx (0 : Int32) (v0 + (1 : Int32))) (v1 + (1 : Int32)))), .val (.ref ar), .val (.int (4 : Int32)), .val (.int (2 : Int32)), .val (.int v1)]) rfl k) ?_
  show own_Go _ _ _ _ (T22.setTop (mkF m 34 #[.val (.ref ar), .val (.int (own_mx (own_mx (0 : Int32) (v0 + (1 : Int32))) (v1 + (1 : Int32)))), .val (.ref ar), .val (.int (4 : Int32)), .val (.int (2 : Int32)), .val (.int v1)] []))
  refine own_st (fun _ k => XS.goto X22.here hx rfl (pc0 := 34) (pc' := 10) rfl (hb hby d1_34) (by decide) (by decide) k) ?_
  show own_Go _ _ _ _ (T22.setTop (mkF m 10 #[.val (.ref ar), .val (.int (own_mx (own_mx (0 : Int32) (v0 + (1 : Int32))) (v1 + (1 : Int32)))), .val (.ref ar), .val (.int (4 : Int32)), .val (.int (2 : Int32)), .val (.int v1)] []))
  refine own_st (fun _ k => XS.iload X22.here hx rfl (hb hby d1_10) rfl k) ?_
  show own_Go _ _ _ _ (T22.setTop (mkF m 12 #[.val (.ref ar), .val (.int (own_mx (own_mx (0 : Int32) (v0 + (1 : Int32))) (v1 + (1 : Int32)))), .val (.ref ar), .val (.int (4 : Int32)), .val (.int (2 : Int32)), .val (.int v1)] [(.int (2 : Int32))]))
  refine own_st (fun _ k => XS.iloadN X22.here hx rfl (hb hby d1_12) rfl k) ?_
  show own_Go _ _ _ _ (T22.setTop (mkF m 13 #[.val (.ref ar), .val (.int (own_mx (own_mx (0 : Int32) (v0 + (1 : Int32))) (v1 + (1 : Int32)))), .val (.ref ar), .val (.int (4 : Int32)), .val (.int (2 : Int32)), .val (.int v1)] [(.int (4 : Int32)), (.int (2 : Int32))]))
  refine own_st (fun _ k => XS.icmpNo X22.here hx rfl (hb hby d1_13) rfl (tlt (by decide : ((2 : Int32) < (4 : Int32)))).2.1 k) ?_
  show own_Go _ _ _ _ (T22.setTop (mkF m 16 #[.val (.ref ar), .val (.int (own_mx (own_mx (0 : Int32) (v0 + (1 : Int32))) (v1 + (1 : Int32)))), .val (.ref ar), .val (.int (4 : Int32)), .val (.int (2 : Int32)), .val (.int v1)] []))
  refine own_st (fun _ k => XS.aloadN X22.here hx rfl (hb hby d1_16) rfl rfl k) ?_
  show own_Go _ _ _ _ (T22.setTop (mkF m 17 #[.val (.ref ar), .val (.int (own_mx (own_mx (0 : Int32) (v0 + (1 : Int32))) (v1 + (1 : Int32)))), .val (.ref ar), .val (.int (4 : Int32)), .val (.int (2 : Int32)), .val (.int v1)] [(.ref ar)]))
  refine own_st (fun _ k => XS.iload X22.here hx rfl (hb hby d1_17) rfl k) ?_
  show own_Go _ _ _ _ (T22.setTop (mkF m 19 #[.val (.ref ar), .val (.int (own_mx (own_mx (0 : Int32) (v0 + (1 : Int32))) (v1 + (1 : Int32)))), .val (.ref ar), .val (.int (4 : Int32)), .val (.int (2 : Int32)), .val (.int v1)] [(.int (2 : Int32)), (.ref ar)]))
  obtain ⟨cl23, Ar23, -, Sz23, Nn23, Hs23, -⟩ := id V_ar
  have hin23 : ¬ ((2 : Int32) < 0 ∨ cl23.slots.size ≤ ((2 : Int32)).toNatClampNeg) := inb_of Sz23 ⟨(by decide : ¬ ((2 : Int32) < (0 : Int32))), (by decide : (2 : Int32) < (4 : Int32))⟩
  have hat23 : cl23.slots[((2 : Int32)).toNatClampNeg]? = some (.int v2) := Hs23.at hin23 rfl
  refine own_st (X22.iaload hx (j := (2 : Int32)) (v := (.int v2)) (by rw [eq22]; exact Ar23.1) (State.isArrayOf_alike hZ.alike Ar23.2.1) Ar23.2.2 hin23 hat23 (g := (mkF m 19 #[.val (.ref ar), .val (.int (own_mx (own_mx (0 : Int32) (v0 + (1 : Int32))) (v1 + (1 : Int32)))), .val (.ref ar), .val (.int (4 : Int32)), .val (.int (2 : Int32)), .val (.int v1)] [(.int (2 : Int32)), (.ref ar)])) rfl rfl (hb hby d1_19)) ?_
  show own_Go _ _ _ _ (T22.setTop (mkF m 20 #[.val (.ref ar), .val (.int (own_mx (own_mx (0 : Int32) (v0 + (1 : Int32))) (v1 + (1 : Int32)))), .val (.ref ar), .val (.int (4 : Int32)), .val (.int (2 : Int32)), .val (.int v1)] [(.int v2)]))
  refine own_st (fun _ k => XS.istore X22.here hx rfl (hb hby d1_20) rfl (l' := #[.val (.ref ar), .val (.int (own_mx (own_mx (0 : Int32) (v0 + (1 : Int32))) (v1 + (1 : Int32)))), .val (.ref ar), .val (.int (4 : Int32)), .val (.int (2 : Int32)), .val (.int v2)]) rfl k) ?_
  show own_Go _ _ _ _ (T22.setTop (mkF m 22 #[.val (.ref ar), .val (.int (own_mx (own_mx (0 : Int32) (v0 + (1 : Int32))) (v1 + (1 : Int32)))), .val (.ref ar), .val (.int (4 : Int32)), .val (.int (2 : Int32)), .val (.int v2)] []))
  refine own_st (fun _ k => XS.iloadN X22.here hx rfl (hb hby d1_22) rfl k) ?_
  show own_Go _ _ _ _ (T22.setTop (mkF m 23 #[.val (.ref ar), .val (.int (own_mx (own_mx (0 : Int32) (v0 + (1 : Int32))) (v1 + (1 : Int32)))), .val (.ref ar), .val (.int (4 : Int32)), .val (.int (2 : Int32)), .val (.int v2)] [(.int (own_mx (own_mx (0 : Int32) (v0 + (1 : Int32))) (v1 + (1 : Int32))))]))
  refine own_st (fun _ k => XS.iload X22.here hx rfl (hb hby d1_23) rfl k) ?_
  show own_Go _ _ _ _ (T22.setTop (mkF m 25 #[.val (.ref ar), .val (.int (own_mx (own_mx (0 : Int32) (v0 + (1 : Int32))) (v1 + (1 : Int32)))), .val (.ref ar), .val (.int (4 : Int32)), .val (.int (2 : Int32)), .val (.int v2)] [(.int v2), (.int (own_mx (own_mx (0 : Int32) (v0 + (1 : Int32))) (v1 + (1 : Int32))))]))
  refine own_st (fun _ k => XS.iconst X22.here hx rfl (hb hby d1_25) k) ?_
  show own_Go _ _ _ _ (T22.setTop (mkF m 26 #[.val (.ref ar), .val (.int (own_mx (own_mx (0 : Int32) (v0 + (1 : Int32))) (v1 + (1 : Int32)))), .val (.ref ar), .val (.int (4 : Int32)), .val (.int (2 : Int32)), .val (.int v2)] [(.int (1 : Int32)), (.int v2), (.int (own_mx (own_mx (0 : Int32) (v0 + (1 : Int32))) (v1 + (1 : Int32))))]))
  refine own_st (fun _ k => XS.iadd X22.here hx rfl (hb hby d1_26) rfl k) ?_
  show own_Go _ _ _ _ (T22.setTop (mkF m 27 #[.val (.ref ar), .val (.int (own_mx (own_mx (0 : Int32) (v0 + (1 : Int32))) (v1 + (1 : Int32)))), .val (.ref ar), .val (.int (4 : Int32)), .val (.int (2 : Int32)), .val (.int v2)] [(.int (v2 + (1 : Int32))), (.int (own_mx (own_mx (0 : Int32) (v0 + (1 : Int32))) (v1 + (1 : Int32))))]))
  obtain ⟨_, _, ⟨T24, L24, k24, n24⟩, -, X24, ⟨Lc24, hQ24, l24, y24, z24⟩, st24⟩ := Jvm.LawKit.callS X22 hx (y := (⟨"java/lang/Math", "max", "(II)I"⟩ : MethodName)) hown (mvT hZ (hw _ (List.mem_of_getElem? (i := 6) rfl))) (mvT hZ (hw _ (List.mem_of_getElem? (i := 7) rfl))) (mvT hZ (hw _ (List.mem_of_getElem? (i := 8) rfl))) (mvT hZ (hw _ (List.mem_of_getElem? (i := 9) rfl))) (by decide) (backOf (W := 0) (rm2 l Z a0 hw [] (own_mx (own_mx (0 : Int32) (v0 + (1 : Int32))) (v1 + (1 : Int32))) (v2 + (1 : Int32)) h0 n0 Z0 ) hZ (hw _ (List.mem_of_getElem? (i := 9) rfl)) (hw _ (List.mem_of_getElem? (i := 8) rfl)) (by decide) (by decide)) (g := (mkF m 27 #[.val (.ref ar), .val (.int (own_mx (own_mx (0 : Int32) (v0 + (1 : Int32))) (v1 + (1 : Int32)))), .val (.ref ar), .val (.int (4 : Int32)), .val (.int (2 : Int32)), .val (.int v2)] [(.int (v2 + (1 : Int32))), (.int (own_mx (own_mx (0 : Int32) (v0 + (1 : Int32))) (v1 + (1 : Int32))))])) rfl (by rw [hml]; rfl) (argsL := [(.int (own_mx (own_mx (0 : Int32) (v0 + (1 : Int32))) (v1 + (1 : Int32)))), (.int (v2 + (1 : Int32)))]) (rest := []) (lenOf own_pd0 rfl) rfl (by show 2 * 0 + _ ≤ _; exact Nat.le_of_eq rfl) (hb hby d1_27) (fun _ _ => ⟨rfl, eq22, (by decide : 0 + 0 ≤ _), (by decide : 0 + 0 ≤ _)⟩)
  dsimp only [Pt.U, Pt.locs, Pt.cells, Pt.slots] at X24 l24 y24 z24 st24 hQ24
  subst l24 y24 z24
  obtain ⟨rfl, Nq24, eq24⟩ := hQ24
  have N24 := Fr.app N22 Nq24
  refine own_st st24 ?_
  show own_Go _ _ _ _ (T24.setTop (mkF m 30 #[.val (.ref ar), .val (.int (own_mx (own_mx (0 : Int32) (v0 + (1 : Int32))) (v1 + (1 : Int32)))), .val (.ref ar), .val (.int (4 : Int32)), .val (.int (2 : Int32)), .val (.int v2)] [(.int (own_mx (own_mx (own_mx (0 : Int32) (v0 + (1 : Int32))) (v1 + (1 : Int32))) (v2 + (1 : Int32))))]))
  refine own_st (fun _ k => XS.istoreN X24.here hx rfl (hb hby d1_30) rfl (l' := #[.val (.ref ar), .val (.int (own_mx (own_mx (own_mx (0 : Int32) (v0 + (1 : Int32))) (v1 + (1 : Int32))) (v2 + (1 : Int32)))), .val (.ref ar), .val (.int (4 : Int32)), .val (.int (2 : Int32)), .val (.int v2)]) rfl k) ?_
  show own_Go _ _ _ _ (T24.setTop (mkF m 31 #[.val (.ref ar), .val (.int (own_mx (own_mx (own_mx (0 : Int32) (v0 + (1 : Int32))) (v1 + (1 : Int32))) (v2 + (1 : Int32)))), .val (.ref ar), .val (.int (4 : Int32)), .val (.int (2 : Int32)), .val (.int v2)] []))
  refine own_st (fun _ k => XS.iinc X24.here hx rfl (hb hby d1_31) rfl (l' := #[.val (.ref ar), .val (.int (own_mx (own_mx (own_mx (0 : Int32) (v0 + (1 : Int32))) (v1 + (1 : Int32))) (v2 + (1 : Int32)))), .val (.ref ar), .val (.int (4 : Int32)), .val (.int (3 : Int32)), .val (.int v2)]) rfl k) ?_
  show own_Go _ _ _ _ (T24.setTop (mkF m 34 #[.val (.ref ar), .val (.int (own_mx (own_mx (own_mx (0 : Int32) (v0 + (1 : Int32))) (v1 + (1 : Int32))) (v2 + (1 : Int32)))), .val (.ref ar), .val (.int (4 : Int32)), .val (.int (3 : Int32)), .val (.int v2)] []))
  refine own_st (fun _ k => XS.goto X24.here hx rfl (pc0 := 34) (pc' := 10) rfl (hb hby d1_34) (by decide) (by decide) k) ?_
  show own_Go _ _ _ _ (T24.setTop (mkF m 10 #[.val (.ref ar), .val (.int (own_mx (own_mx (own_mx (0 : Int32) (v0 + (1 : Int32))) (v1 + (1 : Int32))) (v2 + (1 : Int32)))), .val (.ref ar), .val (.int (4 : Int32)), .val (.int (3 : Int32)), .val (.int v2)] []))
  refine own_st (fun _ k => XS.iload X24.here hx rfl (hb hby d1_10) rfl k) ?_
  show own_Go _ _ _ _ (T24.setTop (mkF m 12 #[.val (.ref ar), .val (.int (own_mx (own_mx (own_mx (0 : Int32) (v0 + (1 : Int32))) (v1 + (1 : Int32))) (v2 + (1 : Int32)))), .val (.ref ar), .val (.int (4 : Int32)), .val (.int (3 : Int32)), .val (.int v2)] [(.int (3 : Int32))]))
  refine own_st (fun _ k => XS.iloadN X24.here hx rfl (hb hby d1_12) rfl k) ?_
  show own_Go _ _ _ _ (T24.setTop (mkF m 13 #[.val (.ref ar), .val (.int (own_mx (own_mx (own_mx (0 : Int32) (v0 + (1 : Int32))) (v1 + (1 : Int32))) (v2 + (1 : Int32)))), .val (.ref ar), .val (.int (4 : Int32)), .val (.int (3 : Int32)), .val (.int v2)] [(.int (4 : Int32)), (.int (3 : Int32))]))
  refine own_st (fun _ k => XS.icmpNo X24.here hx rfl (hb hby d1_13) rfl (tlt (by decide : ((3 : Int32) < (4 : Int32)))).2.1 k) ?_
  show own_Go _ _ _ _ (T24.setTop (mkF m 16 #[.val (.ref ar), .val (.int (own_mx (own_mx (own_mx (0 : Int32) (v0 + (1 : Int32))) (v1 + (1 : Int32))) (v2 + (1 : Int32)))), .val (.ref ar), .val (.int (4 : Int32)), .val (.int (3 : Int32)), .val (.int v2)] []))
  refine own_st (fun _ k => XS.aloadN X24.here hx rfl (hb hby d1_16) rfl rfl k) ?_
  show own_Go _ _ _ _ (T24.setTop (mkF m 17 #[.val (.ref ar), .val (.int (own_mx (own_mx (own_mx (0 : Int32) (v0 + (1 : Int32))) (v1 + (1 : Int32))) (v2 + (1 : Int32)))), .val (.ref ar), .val (.int (4 : Int32)), .val (.int (3 : Int32)), .val (.int v2)] [(.ref ar)]))
  refine own_st (fun _ k => XS.iload X24.here hx rfl (hb hby d1_17) rfl k) ?_
  show own_Go _ _ _ _ (T24.setTop (mkF m 19 #[.val (.ref ar), .val (.int (own_mx (own_mx (own_mx (0 : Int32) (v0 + (1 : Int32))) (v1 + (1 : Int32))) (v2 + (1 : Int32)))), .val (.ref ar), .val (.int (4 : Int32)), .val (.int (3 : Int32)), .val (.int v2)] [(.int (3 : Int32)), (.ref ar)]))
  obtain ⟨cl25, Ar25, -, Sz25, Nn25, Hs25, -⟩ := id V_ar
  have hin25 : ¬ ((3 : Int32) < 0 ∨ cl25.slots.size ≤ ((3 : Int32)).toNatClampNeg) := inb_of Sz25 ⟨(by decide : ¬ ((3 : Int32) < (0 : Int32))), (by decide : (3 : Int32) < (4 : Int32))⟩
  have hat25 : cl25.slots[((3 : Int32)).toNatClampNeg]? = some (.int v3) := Hs25.at hin25 rfl
  refine own_st (X24.iaload hx (j := (3 : Int32)) (v := (.int v3)) (by rw [eq24]; exact Ar25.1) (State.isArrayOf_alike hZ.alike Ar25.2.1) Ar25.2.2 hin25 hat25 (g := (mkF m 19 #[.val (.ref ar), .val (.int (own_mx (own_mx (own_mx (0 : Int32) (v0 + (1 : Int32))) (v1 + (1 : Int32))) (v2 + (1 : Int32)))), .val (.ref ar), .val (.int (4 : Int32)), .val (.int (3 : Int32)), .val (.int v2)] [(.int (3 : Int32)), (.ref ar)])) rfl rfl (hb hby d1_19)) ?_
  show own_Go _ _ _ _ (T24.setTop (mkF m 20 #[.val (.ref ar), .val (.int (own_mx (own_mx (own_mx (0 : Int32) (v0 + (1 : Int32))) (v1 + (1 : Int32))) (v2 + (1 : Int32)))), .val (.ref ar), .val (.int (4 : Int32)), .val (.int (3 : Int32)), .val (.int v2)] [(.int v3)]))
  refine own_st (fun _ k => XS.istore X24.here hx rfl (hb hby d1_20) rfl (l' := #[.val (.ref ar), .val (.int (own_mx (own_mx (own_mx (0 : Int32) (v0 + (1 : Int32))) (v1 + (1 : Int32))) (v2 + (1 : Int32)))), .val (.ref ar), .val (.int (4 : Int32)), .val (.int (3 : Int32)), .val (.int v3)]) rfl k) ?_
  show own_Go _ _ _ _ (T24.setTop (mkF m 22 #[.val (.ref ar), .val (.int (own_mx (own_mx (own_mx (0 : Int32) (v0 + (1 : Int32))) (v1 + (1 : Int32))) (v2 + (1 : Int32)))), .val (.ref ar), .val (.int (4 : Int32)), .val (.int (3 : Int32)), .val (.int v3)] []))
  refine own_st (fun _ k => XS.iloadN X24.here hx rfl (hb hby d1_22) rfl k) ?_
  show own_Go _ _ _ _ (T24.setTop (mkF m 23 #[.val (.ref ar), .val (.int (own_mx (own_mx (own_mx (0 : Int32) (v0 + (1 : Int32))) (v1 + (1 : Int32))) (v2 + (1 : Int32)))), .val (.ref ar), .val (.int (4 : Int32)), .val (.int (3 : Int32)), .val (.int v3)] [(.int (own_mx (own_mx (own_mx (0 : Int32) (v0 + (1 : Int32))) (v1 + (1 : Int32))) (v2 + (1 : Int32))))]))
  refine own_st (fun _ k => XS.iload X24.here hx rfl (hb hby d1_23) rfl k) ?_
  show own_Go _ _ _ _ (T24.setTop (mkF m 25 #[.val (.ref ar), .val (.int (own_mx (own_mx (own_mx (0 : Int32) (v0 + (1 : Int32))) (v1 + (1 : Int32))) (v2 + (1 : Int32)))), .val (.ref ar), .val (.int (4 : Int32)), .val (.int (3 : Int32)), .val (.int v3)] [(.int v3), (.int (own_mx (own_mx (own_mx (0 : Int32) (v0 + (1 : Int32))) (v1 + (1 : Int32))) (v2 + (1 : Int32))))]))
  refine own_st (fun _ k => XS.iconst X24.here hx rfl (hb hby d1_25) k) ?_
  show own_Go _ _ _ _ (T24.setTop (mkF m 26 #[.val (.ref ar), .val (.int (own_mx (own_mx (own_mx (0 : Int32) (v0 + (1 : Int32))) (v1 + (1 : Int32))) (v2 + (1 : Int32)))), .val (.ref ar), .val (.int (4 : Int32)), .val (.int (3 : Int32)), .val (.int v3)] [(.int (1 : Int32)), (.int v3), (.int (own_mx (own_mx (own_mx (0 : Int32) (v0 + (1 : Int32))) (v1 + (1 : Int32))) (v2 + (1 : Int32))))]))
  refine own_st (fun _ k => XS.iadd X24.here hx rfl (hb hby d1_26) rfl k) ?_
  show own_Go _ _ _ _ (T24.setTop (mkF m 27 #[.val (.ref ar), .val (.int (own_mx (own_mx (own_mx (0 : Int32) (v0 + (1 : Int32))) (v1 + (1 : Int32))) (v2 + (1 : Int32)))), .val (.ref ar), .val (.int (4 : Int32)), .val (.int (3 : Int32)), .val (.int v3)] [(.int (v3 + (1 : Int32))), (.int (own_mx (own_mx (own_mx (0 : Int32) (v0 + (1 : Int32))) (v1 + (1 : Int32))) (v2 + (1 : Int32))))]))
  obtain ⟨_, _, ⟨T26, L26, k26, n26⟩, -, X26, ⟨Lc26, hQ26, l26, y26, z26⟩, st26⟩ := Jvm.LawKit.callS X24 hx (y := (⟨"java/lang/Math", "max", "(II)I"⟩ : MethodName)) hown (mvT hZ (hw _ (List.mem_of_getElem? (i := 6) rfl))) (mvT hZ (hw _ (List.mem_of_getElem? (i := 7) rfl))) (mvT hZ (hw _ (List.mem_of_getElem? (i := 8) rfl))) (mvT hZ (hw _ (List.mem_of_getElem? (i := 9) rfl))) (by decide) (backOf (W := 0) (rm2 l Z a0 hw [] (own_mx (own_mx (own_mx (0 : Int32) (v0 + (1 : Int32))) (v1 + (1 : Int32))) (v2 + (1 : Int32))) (v3 + (1 : Int32)) h0 n0 Z0 ) hZ (hw _ (List.mem_of_getElem? (i := 9) rfl)) (hw _ (List.mem_of_getElem? (i := 8) rfl)) (by decide) (by decide)) (g := (mkF m 27 #[.val (.ref ar), .val (.int (own_mx (own_mx (own_mx (0 : Int32) (v0 + (1 : Int32))) (v1 + (1 : Int32))) (v2 + (1 : Int32)))), .val (.ref ar), .val (.int (4 : Int32)), .val (.int (3 : Int32)), .val (.int v3)] [(.int (v3 + (1 : Int32))), (.int (own_mx (own_mx (own_mx (0 : Int32) (v0 + (1 : Int32))) (v1 + (1 : Int32))) (v2 + (1 : Int32))))])) rfl (by rw [hml]; rfl) (argsL := [(.int (own_mx (own_mx (own_mx (0 : Int32) (v0 + (1 : Int32))) (v1 + (1 : Int32))) (v2 + (1 : Int32)))), (.int (v3 + (1 : Int32)))]) (rest := []) (lenOf own_pd0 rfl) rfl (by show 2 * 0 + _ ≤ _; exact Nat.le_of_eq rfl) (hb hby d1_27) (fun _ _ => ⟨rfl, eq24, (by decide : 0 + 0 ≤ _), (by decide : 0 + 0 ≤ _)⟩)
  dsimp only [Pt.U, Pt.locs, Pt.cells, Pt.slots] at X26 l26 y26 z26 st26 hQ26
  subst l26 y26 z26
  obtain ⟨rfl, Nq26, eq26⟩ := hQ26
  have N26 := Fr.app N24 Nq26
  refine own_st st26 ?_
  show own_Go _ _ _ _ (T26.setTop (mkF m 30 #[.val (.ref ar), .val (.int (own_mx (own_mx (own_mx (0 : Int32) (v0 + (1 : Int32))) (v1 + (1 : Int32))) (v2 + (1 : Int32)))), .val (.ref ar), .val (.int (4 : Int32)), .val (.int (3 : Int32)), .val (.int v3)] [(.int (own_mx (own_mx (own_mx (own_mx (0 : Int32) (v0 + (1 : Int32))) (v1 + (1 : Int32))) (v2 + (1 : Int32))) (v3 + (1 : Int32))))]))
  refine own_st (fun _ k => XS.istoreN X26.here hx rfl (hb hby d1_30) rfl (l' := #[.val (.ref ar), .val (.int (own_mx (own_mx (own_mx (own_mx (0 : Int32) (v0 + (1 : Int32))) (v1 + (1 : Int32))) (v2 + (1 : Int32))) (v3 + (1 : Int32)))), .val (.ref ar), .val (.int (4 : Int32)), .val (.int (3 : Int32)), .val (.int v3)]) rfl k) ?_
  show own_Go _ _ _ _ (T26.setTop (mkF m 31 #[.val (.ref ar), .val (.int (own_mx (own_mx (own_mx (own_mx (0 : Int32) (v0 + (1 : Int32))) (v1 + (1 : Int32))) (v2 + (1 : Int32))) (v3 + (1 : Int32)))), .val (.ref ar), .val (.int (4 : Int32)), .val (.int (3 : Int32)), .val (.int v3)] []))
  refine own_st (fun _ k => XS.iinc X26.here hx rfl (hb hby d1_31) rfl (l' := #[.val (.ref ar), .val (.int (own_mx (own_mx (own_mx (own_mx (0 : Int32) (v0 + (1 : Int32))) (v1 + (1 : Int32))) (v2 + (1 : Int32))) (v3 + (1 : Int32)))), .val (.ref ar), .val (.int (4 : Int32)), .val (.int (4 : Int32)), .val (.int v3)]) rfl k) ?_
  show own_Go _ _ _ _ (T26.setTop (mkF m 34 #[.val (.ref ar), .val (.int (own_mx (own_mx (own_mx (own_mx (0 : Int32) (v0 + (1 : Int32))) (v1 + (1 : Int32))) (v2 + (1 : Int32))) (v3 + (1 : Int32)))), .val (.ref ar), .val (.int (4 : Int32)), .val (.int (4 : Int32)), .val (.int v3)] []))
  refine own_st (fun _ k => XS.goto X26.here hx rfl (pc0 := 34) (pc' := 10) rfl (hb hby d1_34) (by decide) (by decide) k) ?_
  show own_Go _ _ _ _ (T26.setTop (mkF m 10 #[.val (.ref ar), .val (.int (own_mx (own_mx (own_mx (own_mx (0 : Int32) (v0 + (1 : Int32))) (v1 + (1 : Int32))) (v2 + (1 : Int32))) (v3 + (1 : Int32)))), .val (.ref ar), .val (.int (4 : Int32)), .val (.int (4 : Int32)), .val (.int v3)] []))
  refine own_st (fun _ k => XS.iload X26.here hx rfl (hb hby d1_10) rfl k) ?_
  show own_Go _ _ _ _ (T26.setTop (mkF m 12 #[.val (.ref ar), .val (.int (own_mx (own_mx (own_mx (own_mx (0 : Int32) (v0 + (1 : Int32))) (v1 + (1 : Int32))) (v2 + (1 : Int32))) (v3 + (1 : Int32)))), .val (.ref ar), .val (.int (4 : Int32)), .val (.int (4 : Int32)), .val (.int v3)] [(.int (4 : Int32))]))
  refine own_st (fun _ k => XS.iloadN X26.here hx rfl (hb hby d1_12) rfl k) ?_
  show own_Go _ _ _ _ (T26.setTop (mkF m 13 #[.val (.ref ar), .val (.int (own_mx (own_mx (own_mx (own_mx (0 : Int32) (v0 + (1 : Int32))) (v1 + (1 : Int32))) (v2 + (1 : Int32))) (v3 + (1 : Int32)))), .val (.ref ar), .val (.int (4 : Int32)), .val (.int (4 : Int32)), .val (.int v3)] [(.int (4 : Int32)), (.int (4 : Int32))]))
  refine own_st (fun _ k => XS.icmpYes X26.here hx rfl (pc0 := 13) (pc' := 37) rfl (hb hby d1_13) rfl (flt (by decide : ¬ ((4 : Int32) < (4 : Int32)))).2.1 (by decide) (by decide) k) ?_
  show own_Go _ _ _ _ (T26.setTop (mkF m 37 #[.val (.ref ar), .val (.int (own_mx (own_mx (own_mx (own_mx (0 : Int32) (v0 + (1 : Int32))) (v1 + (1 : Int32))) (v2 + (1 : Int32))) (v3 + (1 : Int32)))), .val (.ref ar), .val (.int (4 : Int32)), .val (.int (4 : Int32)), .val (.int v3)] []))
  refine own_st (fun _ k => XS.iloadN X26.here hx rfl (hb hby d1_37) rfl k) ?_
  show own_Go _ _ _ _ (T26.setTop (mkF m 38 #[.val (.ref ar), .val (.int (own_mx (own_mx (own_mx (own_mx (0 : Int32) (v0 + (1 : Int32))) (v1 + (1 : Int32))) (v2 + (1 : Int32))) (v3 + (1 : Int32)))), .val (.ref ar), .val (.int (4 : Int32)), .val (.int (4 : Int32)), .val (.int v3)] [(.int (own_mx (own_mx (own_mx (own_mx (0 : Int32) (v0 + (1 : Int32))) (v1 + (1 : Int32))) (v2 + (1 : Int32))) (v3 + (1 : Int32))))]))
  obtain ⟨fs, hr, hrun, hended, hW, hsame⟩ := X26.leave (v := some (.int (own_mx (own_mx (own_mx (own_mx (0 : Int32) (v0 + (1 : Int32))) (v1 + (1 : Int32))) (v2 + (1 : Int32))) (v3 + (1 : Int32))))) (fun h => by rw [Bd.returns] at h; cases h)
  refine own_out (own_retI X26 hx Bd.returns (hb hby d1_38) hr) ⟨hrun, hended, _, _, rfl, ?_, ⟨_, rfl⟩, hW, hsame.mono (by decide) (by decide)⟩
  show Q1_4 Z ar kk v0 v1 v2 v3 h0 n0 _ T26.heap _
  have hv : own_cc4 v0 v1 v2 v3 = (own_mx (own_mx (own_mx (own_mx (0 : Int32) (v0 + (1 : Int32))) (v1 + (1 : Int32))) (v2 + (1 : Int32))) (v3 + (1 : Int32))) := rfl
  exact ⟨by rw [hv], N26, eq26⟩
def own_cc5 (v0 : Int32) (v1 : Int32) (v2 : Int32) (v3 : Int32) (v4 : Int32) : Int32 := (own_mx (own_mx (own_mx (own_mx (own_mx (0 : Int32) (v0 + (1 : Int32))) (v1 + (1 : Int32))) (v2 + (1 : Int32))) (v3 + (1 : Int32))) (v4 + (1 : Int32)))
def Q1_5 (Z : State) (ar : Addr) (kk : ClassId) (v0 : Int32) (v1 : Int32) (v2 : Int32) (v3 : Int32) (v4 : Int32) (h0 : Heap) (n0 : Nat) (v : Option Value) (h : Heap) (L : List Loc) : Prop := v = some (.int (own_cc5 v0 v1 v2 v3 v4)) ∧ Fr n0 L ∧ h = h0
theorem ef_1_5 (m : MethodId) (x0 : Addr) : entryFrame m #[(.ref x0)] 6 = mkF m 0 #[.val (.ref x0), .unset, .unset, .unset, .unset, .unset] [] := by first | (simp [entryFrame, mkF, argsToLocals, Value.category]; done) | rfl
set_option maxRecDepth 65536 in
set_option maxHeartbeats 40000000 in
theorem rm1_5 (l : Launch) (Z : State) (a0 : Array Value) (hw : ∀ d ∈ tables_1, d.before a0 Z = true) (ws : List Jvm.Cond) (ar : Addr) (kk : ClassId) (v0 : Int32) (v1 : Int32) (v2 : Int32) (v3 : Int32) (v4 : Int32) (h0 : Heap) (n0 : Nat) (Z0 : n0 ≤ h0.size) (V_ar : Arv Z h0 ar kk .int (5 : Int32) [.int v0, .int v1, .int v2, .int v3, .int v4] (.int (0 : Int32))) :
    MetFree l (⟨"com/example/barred_owl/barredowl/Embedding", "componentCount", "([I)I"⟩ : MethodName) (head1 (Jvm.Cond.code (⟨"com/example/barred_owl/barredowl/Embedding", "componentCount", "([I)I"⟩ : MethodName) prog_25_method_17_code 6 (some .int) :: ws) ({ frames := 1, cells := 0, slots := 0, locals := 20 } : Room)) (fun a U => a = #[(.ref ar)] ∧ Z.Warmed39 U.vm ∧ U.heap = h0) (fun _ _ _ _ _ => True) (fun _ U o U' => ∃ v L, o = .returned v ∧ Q1_5 Z ar kk v0 v1 v2 v3 v4 h0 n0 v U'.heap L ∧ FrameEnd U o U' L ({ frames := 1, cells := 0, slots := 0, locals := 20 } : Room).cells ({ frames := 1, cells := 0, slots := 0, locals := 20 } : Room).slots) := by
  refine MetFree.of_bodySF (plainFor_of_name own_pn0) hisR ?_
  intro p e s m args below meth c s₁ Bd hml0 hP hK
  obtain ⟨rfl, hZ, hh⟩ := hP
  have hx := Bd.exec
  have hby := Bd.bytes
  have hml : c.maxLocals = 6 := hml0
  have hown : s.vm.findClass "com/example/barred_owl/barredowl/Embedding" = some m.cls := findClass_of_methodNamed Bd.named
  have hnm := (name_of_methodNamed Bd.named Bd.method).1
  have X0 : Stand p l e ({ frames := 1, cells := 0, slots := 0, locals := 20 } : Room) s m #[(.ref ar)] below meth c s₁ [] 0 0 := Stand.of_body Bd
  have e0 : s₁.heap = h0 := by rw [← hh, Bd.state]; rfl
  have N0 := Fr.nil n0
  refine own_in ?_
  refine own_st (fun _ k => castTop (ef_1_5 m ar) k) ?_
  have K0 : Keep h0 h0 [] := Keep.refl h0 []
  show own_Go _ _ _ _ (s₁.setTop (mkF m 0 #[.val (.ref ar), .unset, .unset, .unset, .unset, .unset] []))
  refine own_st (fun _ k => XS.iconst X0.here hx rfl (hb hby d1_0) k) ?_
  show own_Go _ _ _ _ (s₁.setTop (mkF m 1 #[.val (.ref ar), .unset, .unset, .unset, .unset, .unset] [(.int (0 : Int32))]))
  refine own_st (fun _ k => XS.istoreN X0.here hx rfl (hb hby d1_1) rfl (l' := #[.val (.ref ar), .val (.int (0 : Int32)), .unset, .unset, .unset, .unset]) rfl k) ?_
  show own_Go _ _ _ _ (s₁.setTop (mkF m 2 #[.val (.ref ar), .val (.int (0 : Int32)), .unset, .unset, .unset, .unset] []))
  refine own_st (fun _ k => XS.aloadN X0.here hx rfl (hb hby d1_2) rfl rfl k) ?_
  show own_Go _ _ _ _ (s₁.setTop (mkF m 3 #[.val (.ref ar), .val (.int (0 : Int32)), .unset, .unset, .unset, .unset] [(.ref ar)]))
  refine own_st (fun _ k => XS.astoreN X0.here hx rfl (hb hby d1_3) rfl rfl (l' := #[.val (.ref ar), .val (.int (0 : Int32)), .val (.ref ar), .unset, .unset, .unset]) rfl k) ?_
  show own_Go _ _ _ _ (s₁.setTop (mkF m 4 #[.val (.ref ar), .val (.int (0 : Int32)), .val (.ref ar), .unset, .unset, .unset] []))
  refine own_st (fun _ k => XS.aloadN X0.here hx rfl (hb hby d1_4) rfl rfl k) ?_
  show own_Go _ _ _ _ (s₁.setTop (mkF m 5 #[.val (.ref ar), .val (.int (0 : Int32)), .val (.ref ar), .unset, .unset, .unset] [(.ref ar)]))
  obtain ⟨cl27, Ar27, -, Sz27, Nn27, -, -⟩ := id V_ar
  refine own_st (X0.arraylength hx (by rw [e0]; exact Ar27.1) (State.isArrayOf_alike hZ.alike Ar27.2.1) (g := (mkF m 5 #[.val (.ref ar), .val (.int (0 : Int32)), .val (.ref ar), .unset, .unset, .unset] [(.ref ar)])) rfl rfl (hb hby d1_5)) ?_
  rw [len_of Sz27 Nn27]
  show own_Go _ _ _ _ (s₁.setTop (mkF m 6 #[.val (.ref ar), .val (.int (0 : Int32)), .val (.ref ar), .unset, .unset, .unset] [(.int (5 : Int32))]))
  refine own_st (fun _ k => XS.istoreN X0.here hx rfl (hb hby d1_6) rfl (l' := #[.val (.ref ar), .val (.int (0 : Int32)), .val (.ref ar), .val (.int (5 : Int32)), .unset, .unset]) rfl k) ?_
  show own_Go _ _ _ _ (s₁.setTop (mkF m 7 #[.val (.ref ar), .val (.int (0 : Int32)), .val (.ref ar), .val (.int (5 : Int32)), .unset, .unset] []))
  refine own_st (fun _ k => XS.iconst X0.here hx rfl (hb hby d1_7) k) ?_
  show own_Go _ _ _ _ (s₁.setTop (mkF m 8 #[.val (.ref ar), .val (.int (0 : Int32)), .val (.ref ar), .val (.int (5 : Int32)), .unset, .unset] [(.int (0 : Int32))]))
  refine own_st (fun _ k => XS.istore X0.here hx rfl (hb hby d1_8) rfl (l' := #[.val (.ref ar), .val (.int (0 : Int32)), .val (.ref ar), .val (.int (5 : Int32)), .val (.int (0 : Int32)), .unset]) rfl k) ?_
  show own_Go _ _ _ _ (s₁.setTop (mkF m 10 #[.val (.ref ar), .val (.int (0 : Int32)), .val (.ref ar), .val (.int (5 : Int32)), .val (.int (0 : Int32)), .unset] []))
  refine own_st (fun _ k => XS.iload X0.here hx rfl (hb hby d1_10) rfl k) ?_
  show own_Go _ _ _ _ (s₁.setTop (mkF m 12 #[.val (.ref ar), .val (.int (0 : Int32)), .val (.ref ar), .val (.int (5 : Int32)), .val (.int (0 : Int32)), .unset] [(.int (0 : Int32))]))
  refine own_st (fun _ k => XS.iloadN X0.here hx rfl (hb hby d1_12) rfl k) ?_
  show own_Go _ _ _ _ (s₁.setTop (mkF m 13 #[.val (.ref ar), .val (.int (0 : Int32)), .val (.ref ar), .val (.int (5 : Int32)), .val (.int (0 : Int32)), .unset] [(.int (5 : Int32)), (.int (0 : Int32))]))
  refine own_st (fun _ k => XS.icmpNo X0.here hx rfl (hb hby d1_13) rfl (tlt (by decide : ((0 : Int32) < (5 : Int32)))).2.1 k) ?_
  show own_Go _ _ _ _ (s₁.setTop (mkF m 16 #[.val (.ref ar), .val (.int (0 : Int32)), .val (.ref ar), .val (.int (5 : Int32)), .val (.int (0 : Int32)), .unset] []))
  refine own_st (fun _ k => XS.aloadN X0.here hx rfl (hb hby d1_16) rfl rfl k) ?_
  show own_Go _ _ _ _ (s₁.setTop (mkF m 17 #[.val (.ref ar), .val (.int (0 : Int32)), .val (.ref ar), .val (.int (5 : Int32)), .val (.int (0 : Int32)), .unset] [(.ref ar)]))
  refine own_st (fun _ k => XS.iload X0.here hx rfl (hb hby d1_17) rfl k) ?_
  show own_Go _ _ _ _ (s₁.setTop (mkF m 19 #[.val (.ref ar), .val (.int (0 : Int32)), .val (.ref ar), .val (.int (5 : Int32)), .val (.int (0 : Int32)), .unset] [(.int (0 : Int32)), (.ref ar)]))
  obtain ⟨cl28, Ar28, -, Sz28, Nn28, Hs28, -⟩ := id V_ar
  have hin28 : ¬ ((0 : Int32) < 0 ∨ cl28.slots.size ≤ ((0 : Int32)).toNatClampNeg) := inb_of Sz28 ⟨(by decide : ¬ ((0 : Int32) < (0 : Int32))), (by decide : (0 : Int32) < (5 : Int32))⟩
  have hat28 : cl28.slots[((0 : Int32)).toNatClampNeg]? = some (.int v0) := Hs28.at hin28 rfl
  refine own_st (X0.iaload hx (j := (0 : Int32)) (v := (.int v0)) (by rw [e0]; exact Ar28.1) (State.isArrayOf_alike hZ.alike Ar28.2.1) Ar28.2.2 hin28 hat28 (g := (mkF m 19 #[.val (.ref ar), .val (.int (0 : Int32)), .val (.ref ar), .val (.int (5 : Int32)), .val (.int (0 : Int32)), .unset] [(.int (0 : Int32)), (.ref ar)])) rfl rfl (hb hby d1_19)) ?_
  show own_Go _ _ _ _ (s₁.setTop (mkF m 20 #[.val (.ref ar), .val (.int (0 : Int32)), .val (.ref ar), .val (.int (5 : Int32)), .val (.int (0 : Int32)), .unset] [(.int v0)]))
  refine own_st (fun _ k => XS.istore X0.here hx rfl (hb hby d1_20) rfl (l' := #[.val (.ref ar), .val (.int (0 : Int32)), .val (.ref ar), .val (.int (5 : Int32)), .val (.int (0 : Int32)), .val (.int v0)]) rfl k) ?_
  show own_Go _ _ _ _ (s₁.setTop (mkF m 22 #[.val (.ref ar), .val (.int (0 : Int32)), .val (.ref ar), .val (.int (5 : Int32)), .val (.int (0 : Int32)), .val (.int v0)] []))
  refine own_st (fun _ k => XS.iloadN X0.here hx rfl (hb hby d1_22) rfl k) ?_
  show own_Go _ _ _ _ (s₁.setTop (mkF m 23 #[.val (.ref ar), .val (.int (0 : Int32)), .val (.ref ar), .val (.int (5 : Int32)), .val (.int (0 : Int32)), .val (.int v0)] [(.int (0 : Int32))]))
  refine own_st (fun _ k => XS.iload X0.here hx rfl (hb hby d1_23) rfl k) ?_
  show own_Go _ _ _ _ (s₁.setTop (mkF m 25 #[.val (.ref ar), .val (.int (0 : Int32)), .val (.ref ar), .val (.int (5 : Int32)), .val (.int (0 : Int32)), .val (.int v0)] [(.int v0), (.int (0 : Int32))]))
  refine own_st (fun _ k => XS.iconst X0.here hx rfl (hb hby d1_25) k) ?_
  show own_Go _ _ _ _ (s₁.setTop (mkF m 26 #[.val (.ref ar), .val (.int (0 : Int32)), .val (.ref ar), .val (.int (5 : Int32)), .val (.int (0 : Int32)), .val (.int v0)] [(.int (1 : Int32)), (.int v0), (.int (0 : Int32))]))
  refine own_st (fun _ k => XS.iadd X0.here hx rfl (hb hby d1_26) rfl k) ?_
  show own_Go _ _ _ _ (s₁.setTop (mkF m 27 #[.val (.ref ar), .val (.int (0 : Int32)), .val (.ref ar), .val (.int (5 : Int32)), .val (.int (0 : Int32)), .val (.int v0)] [(.int (v0 + (1 : Int32))), (.int (0 : Int32))]))
  obtain ⟨_, _, ⟨T29, L29, k29, n29⟩, -, X29, ⟨Lc29, hQ29, l29, y29, z29⟩, st29⟩ := Jvm.LawKit.callS X0 hx (y := (⟨"java/lang/Math", "max", "(II)I"⟩ : MethodName)) hown (mvT hZ (hw _ (List.mem_of_getElem? (i := 6) rfl))) (mvT hZ (hw _ (List.mem_of_getElem? (i := 7) rfl))) (mvT hZ (hw _ (List.mem_of_getElem? (i := 8) rfl))) (mvT hZ (hw _ (List.mem_of_getElem? (i := 9) rfl))) (by decide) (backOf (W := 0) (rm2 l Z a0 hw [] (0 : Int32) (v0 + (1 : Int32)) h0 n0 Z0 ) hZ (hw _ (List.mem_of_getElem? (i := 9) rfl)) (hw _ (List.mem_of_getElem? (i := 8) rfl)) (by decide) (by decide)) (g := (mkF m 27 #[.val (.ref ar), .val (.int (0 : Int32)), .val (.ref ar), .val (.int (5 : Int32)), .val (.int (0 : Int32)), .val (.int v0)] [(.int (v0 + (1 : Int32))), (.int (0 : Int32))])) rfl (by rw [hml]; rfl) (argsL := [(.int (0 : Int32)), (.int (v0 + (1 : Int32)))]) (rest := []) (lenOf own_pd0 rfl) rfl (by show 2 * 0 + _ ≤ _; exact Nat.le_of_eq rfl) (hb hby d1_27) (fun _ _ => ⟨rfl, e0, (by decide : 0 + 0 ≤ _), (by decide : 0 + 0 ≤ _)⟩)
  dsimp only [Pt.U, Pt.locs, Pt.cells, Pt.slots] at X29 l29 y29 z29 st29 hQ29
  subst l29 y29 z29
  obtain ⟨rfl, Nq29, eq29⟩ := hQ29
  have N29 := Fr.app N0 Nq29
  refine own_st st29 ?_
  show own_Go _ _ _ _ (T29.setTop (mkF m 30 #[.val (.ref ar), .val (.int (0 : Int32)), .val (.ref ar), .val (.int (5 : Int32)), .val (.int (0 : Int32)), .val (.int v0)] [(.int (own_mx (0 : Int32) (v0 + (1 : Int32))))]))
  refine own_st (fun _ k => XS.istoreN X29.here hx rfl (hb hby d1_30) rfl (l' := #[.val (.ref ar), .val (.int (own_mx (0 : Int32) (v0 + (1 : Int32)))), .val (.ref ar), .val (.int (5 : Int32)), .val (.int (0 : Int32)), .val (.int v0)]) rfl k) ?_
  show own_Go _ _ _ _ (T29.setTop (mkF m 31 #[.val (.ref ar), .val (.int (own_mx (0 : Int32) (v0 + (1 : Int32)))), .val (.ref ar), .val (.int (5 : Int32)), .val (.int (0 : Int32)), .val (.int v0)] []))
  refine own_st (fun _ k => XS.iinc X29.here hx rfl (hb hby d1_31) rfl (l' := #[.val (.ref ar), .val (.int (own_mx (0 : Int32) (v0 + (1 : Int32)))), .val (.ref ar), .val (.int (5 : Int32)), .val (.int (1 : Int32)), .val (.int v0)]) rfl k) ?_
  show own_Go _ _ _ _ (T29.setTop (mkF m 34 #[.val (.ref ar), .val (.int (own_mx (0 : Int32) (v0 + (1 : Int32)))), .val (.ref ar), .val (.int (5 : Int32)), .val (.int (1 : Int32)), .val (.int v0)] []))
  refine own_st (fun _ k => XS.goto X29.here hx rfl (pc0 := 34) (pc' := 10) rfl (hb hby d1_34) (by decide) (by decide) k) ?_
  show own_Go _ _ _ _ (T29.setTop (mkF m 10 #[.val (.ref ar), .val (.int (own_mx (0 : Int32) (v0 + (1 : Int32)))), .val (.ref ar), .val (.int (5 : Int32)), .val (.int (1 : Int32)), .val (.int v0)] []))
  refine own_st (fun _ k => XS.iload X29.here hx rfl (hb hby d1_10) rfl k) ?_
  show own_Go _ _ _ _ (T29.setTop (mkF m 12 #[.val (.ref ar), .val (.int (own_mx (0 : Int32) (v0 + (1 : Int32)))), .val (.ref ar), .val (.int (5 : Int32)), .val (.int (1 : Int32)), .val (.int v0)] [(.int (1 : Int32))]))
  refine own_st (fun _ k => XS.iloadN X29.here hx rfl (hb hby d1_12) rfl k) ?_
  show own_Go _ _ _ _ (T29.setTop (mkF m 13 #[.val (.ref ar), .val (.int (own_mx (0 : Int32) (v0 + (1 : Int32)))), .val (.ref ar), .val (.int (5 : Int32)), .val (.int (1 : Int32)), .val (.int v0)] [(.int (5 : Int32)), (.int (1 : Int32))]))
  refine own_st (fun _ k => XS.icmpNo X29.here hx rfl (hb hby d1_13) rfl (tlt (by decide : ((1 : Int32) < (5 : Int32)))).2.1 k) ?_
  show own_Go _ _ _ _ (T29.setTop (mkF m 16 #[.val (.ref ar), .val (.int (own_mx (0 : Int32) (v0 + (1 : Int32)))), .val (.ref ar), .val (.int (5 : Int32)), .val (.int (1 : Int32)), .val (.int v0)] []))
  refine own_st (fun _ k => XS.aloadN X29.here hx rfl (hb hby d1_16) rfl rfl k) ?_
  show own_Go _ _ _ _ (T29.setTop (mkF m 17 #[.val (.ref ar), .val (.int (own_mx (0 : Int32) (v0 + (1 : Int32)))), .val (.ref ar), .val (.int (5 : Int32)), .val (.int (1 : Int32)), .val (.int v0)] [(.ref ar)]))
  refine own_st (fun _ k => XS.iload X29.here hx rfl (hb hby d1_17) rfl k) ?_
  show own_Go _ _ _ _ (T29.setTop (mkF m 19 #[.val (.ref ar), .val (.int (own_mx (0 : Int32) (v0 + (1 : Int32)))), .val (.ref ar), .val (.int (5 : Int32)), .val (.int (1 : Int32)), .val (.int v0)] [(.int (1 : Int32)), (.ref ar)]))
  obtain ⟨cl30, Ar30, -, Sz30, Nn30, Hs30, -⟩ := id V_ar
  have hin30 : ¬ ((1 : Int32) < 0 ∨ cl30.slots.size ≤ ((1 : Int32)).toNatClampNeg) := inb_of Sz30 ⟨(by decide : ¬ ((1 : Int32) < (0 : Int32))), (by decide : (1 : Int32) < (5 : Int32))⟩
  have hat30 : cl30.slots[((1 : Int32)).toNatClampNeg]? = some (.int v1) := Hs30.at hin30 rfl
  refine own_st (X29.iaload hx (j := (1 : Int32)) (v := (.int v1)) (by rw [eq29]; exact Ar30.1) (State.isArrayOf_alike hZ.alike Ar30.2.1) Ar30.2.2 hin30 hat30 (g := (mkF m 19 #[.val (.ref ar), .val (.int (own_mx (0 : Int32) (v0 + (1 : Int32)))), .val (.ref ar), .val (.int (5 : Int32)), .val (.int (1 : Int32)), .val (.int v0)] [(.int (1 : Int32)), (.ref ar)])) rfl rfl (hb hby d1_19)) ?_
  show own_Go _ _ _ _ (T29.setTop (mkF m 20 #[.val (.ref ar), .val (.int (own_mx (0 : Int32) (v0 + (1 : Int32)))), .val (.ref ar), .val (.int (5 : Int32)), .val (.int (1 : Int32)), .val (.int v0)] [(.int v1)]))
  refine own_st (fun _ k => XS.istore X29.here hx rfl (hb hby d1_20) rfl (l' := #[.val (.ref ar), .val (.int (own_mx (0 : Int32) (v0 + (1 : Int32)))), .val (.ref ar), .val (.int (5 : Int32)), .val (.int (1 : Int32)), .val (.int v1)]) rfl k) ?_
  show own_Go _ _ _ _ (T29.setTop (mkF m 22 #[.val (.ref ar), .val (.int (own_mx (0 : Int32) (v0 + (1 : Int32)))), .val (.ref ar), .val (.int (5 : Int32)), .val (.int (1 : Int32)), .val (.int v1)] []))
  refine own_st (fun _ k => XS.iloadN X29.here hx rfl (hb hby d1_22) rfl k) ?_
  show own_Go _ _ _ _ (T29.setTop (mkF m 23 #[.val (.ref ar), .val (.int (own_mx (0 : Int32) (v0 + (1 : Int32)))), .val (.ref ar), .val (.int (5 : Int32)), .val (.int (1 : Int32)), .val (.int v1)] [(.int (own_mx (0 : Int32) (v0 + (1 : Int32))))]))
  refine own_st (fun _ k => XS.iload X29.here hx rfl (hb hby d1_23) rfl k) ?_
  show own_Go _ _ _ _ (T29.setTop (mkF m 25 #[.val (.ref ar), .val (.int (own_mx (0 : Int32) (v0 + (1 : Int32)))), .val (.ref ar), .val (.int (5 : Int32)), .val (.int (1 : Int32)), .val (.int v1)] [(.int v1), (.int (own_mx (0 : Int32) (v0 + (1 : Int32))))]))
  refine own_st (fun _ k => XS.iconst X29.here hx rfl (hb hby d1_25) k) ?_
  show own_Go _ _ _ _ (T29.setTop (mkF m 26 #[.val (.ref ar), .val (.int (own_mx (0 : Int32) (v0 + (1 : Int32)))), .val (.ref ar), .val (.int (5 : Int32)), .val (.int (1 : Int32)), .val (.int v1)] [(.int (1 : Int32)), (.int v1), (.int (own_mx (0 : Int32) (v0 + (1 : Int32))))]))
  refine own_st (fun _ k => XS.iadd X29.here hx rfl (hb hby d1_26) rfl k) ?_
  show own_Go _ _ _ _ (T29.setTop (mkF m 27 #[.val (.ref ar), .val (.int (own_mx (0 : Int32) (v0 + (1 : Int32)))), .val (.ref ar), .val (.int (5 : Int32)), .val (.int (1 : Int32)), .val (.int v1)] [(.int (v1 + (1 : Int32))), (.int (own_mx (0 : Int32) (v0 + (1 : Int32))))]))
  obtain ⟨_, _, ⟨T31, L31, k31, n31⟩, -, X31, ⟨Lc31, hQ31, l31, y31, z31⟩, st31⟩ := Jvm.LawKit.callS X29 hx (y := (⟨"java/lang/Math", "max", "(II)I"⟩ : MethodName)) hown (mvT hZ (hw _ (List.mem_of_getElem? (i := 6) rfl))) (mvT hZ (hw _ (List.mem_of_getElem? (i := 7) rfl))) (mvT hZ (hw _ (List.mem_of_getElem? (i := 8) rfl))) (mvT hZ (hw _ (List.mem_of_getElem? (i := 9) rfl))) (by decide) (backOf (W := 0) (rm2 l Z a0 hw [] (own_mx (0 : Int32) (v0 + (1 : Int32))) (v1 + (1 : Int32)) h0 n0 Z0 ) hZ (hw _ (List.mem_of_getElem? (i := 9) rfl)) (hw _ (List.mem_of_getElem? (i := 8) rfl)) (by decide) (by decide)) (g := (mkF m 27 #[.val (.ref ar), .val (.int (own_mx (0 : Int32) (v0 + (1 : Int32)))), .val (.ref ar), .val (.int (5 : Int32)), .val (.int (1 : Int32)), .val (.int v1)] [(.int (v1 + (1 : Int32))), (.int (own_mx (0 : Int32) (v0 + (1 : Int32))))])) rfl (by rw [hml]; rfl) (argsL := [(.int (own_mx (0 : Int32) (v0 + (1 : Int32)))), (.int (v1 + (1 : Int32)))]) (rest := []) (lenOf own_pd0 rfl) rfl (by show 2 * 0 + _ ≤ _; exact Nat.le_of_eq rfl) (hb hby d1_27) (fun _ _ => ⟨rfl, eq29, (by decide : 0 + 0 ≤ _), (by decide : 0 + 0 ≤ _)⟩)
  dsimp only [Pt.U, Pt.locs, Pt.cells, Pt.slots] at X31 l31 y31 z31 st31 hQ31
  subst l31 y31 z31
  obtain ⟨rfl, Nq31, eq31⟩ := hQ31
  have N31 := Fr.app N29 Nq31
  refine own_st st31 ?_
  show own_Go _ _ _ _ (T31.setTop (mkF m 30 #[.val (.ref ar), .val (.int (own_mx (0 : Int32) (v0 + (1 : Int32)))), .val (.ref ar), .val (.int (5 : Int32)), .val (.int (1 : Int32)), .val (.int v1)] [(.int (own_mx (own_mx (0 : Int32) (v0 + (1 : Int32))) (v1 + (1 : Int32))))]))
  refine own_st (fun _ k => XS.istoreN X31.here hx rfl (hb hby d1_30) rfl (l' := #[.val (.ref ar), .val (.int (own_mx (own_mx (0 : Int32) (v0 + (1 : Int32))) (v1 + (1 : Int32)))), .val (.ref ar), .val (.int (5 : Int32)), .val (.int (1 : Int32)), .val (.int v1)]) rfl k) ?_
  show own_Go _ _ _ _ (T31.setTop (mkF m 31 #[.val (.ref ar), .val (.int (own_mx (own_mx (0 : Int32) (v0 + (1 : Int32))) (v1 + (1 : Int32)))), .val (.ref ar), .val (.int (5 : Int32)), .val (.int (1 : Int32)), .val (.int v1)] []))
  refine own_st (fun _ k => XS.iinc X31.here hx rfl (hb hby d1_31) rfl (l' := #[.val (.ref ar), .val (.int (own_mx (own_mx (0 : Int32) (v0 + (1 : Int32))) (v1 + (1 : Int32)))), .val (.ref ar), .val (.int (5 : Int32)), .val (.int (2 : Int32)), .val (.int v1)]) rfl k) ?_
  show own_Go _ _ _ _ (T31.setTop (mkF m 34 #[.val (.ref ar), .val (.int (own_mx (own_mx (0 : Int32) (v0 + (1 : Int32))) (v1 + (1 : Int32)))), .val (.ref ar), .val (.int (5 : Int32)), .val (.int (2 : Int32)), .val (.int v1)] []))
  refine own_st (fun _ k => XS.goto X31.here hx rfl (pc0 := 34) (pc' := 10) rfl (hb hby d1_34) (by decide) (by decide) k) ?_
  show own_Go _ _ _ _ (T31.setTop (mkF m 10 #[.val (.ref ar), .val (.int (own_mx (own_mx (0 : Int32) (v0 + (1 : Int32))) (v1 + (1 : Int32)))), .val (.ref ar), .val (.int (5 : Int32)), .val (.int (2 : Int32)), .val (.int v1)] []))
  refine own_st (fun _ k => XS.iload X31.here hx rfl (hb hby d1_10) rfl k) ?_
  show own_Go _ _ _ _ (T31.setTop (mkF m 12 #[.val (.ref ar), .val (.int (own_mx (own_mx (0 : Int32) (v0 + (1 : Int32))) (v1 + (1 : Int32)))), .val (.ref ar), .val (.int (5 : Int32)), .val (.int (2 : Int32)), .val (.int v1)] [(.int (2 : Int32))]))
  refine own_st (fun _ k => XS.iloadN X31.here hx rfl (hb hby d1_12) rfl k) ?_
  show own_Go _ _ _ _ (T31.setTop (mkF m 13 #[.val (.ref ar), .val (.int (own_mx (own_mx (0 : Int32) (v0 + (1 : Int32))) (v1 + (1 : Int32)))), .val (.ref ar), .val (.int (5 : Int32)), .val (.int (2 : Int32)), .val (.int v1)] [(.int (5 : Int32)), (.int (2 : Int32))]))
  refine own_st (fun _ k => XS.icmpNo X31.here hx rfl (hb hby d1_13) rfl (tlt (by decide : ((2 : Int32) < (5 : Int32)))).2.1 k) ?_
  show own_Go _ _ _ _ (T31.setTop (mkF m 16 #[.val (.ref ar), .val (.int (own_mx (own_mx (0 : Int32) (v0 + (1 : Int32))) (v1 + (1 : Int32)))), .val (.ref ar), .val (.int (5 : Int32)), .val (.int (2 : Int32)), .val (.int v1)] []))
  refine own_st (fun _ k => XS.aloadN X31.here hx rfl (hb hby d1_16) rfl rfl k) ?_
  show own_Go _ _ _ _ (T31.setTop (mkF m 17 #[.val (.ref ar), .val (.int (own_mx (own_mx (0 : Int32) (v0 + (1 : Int32))) (v1 + (1 : Int32)))), .val (.ref ar), .val (.int (5 : Int32)), .val (.int (2 : Int32)), .val (.int v1)] [(.ref ar)]))
  refine own_st (fun _ k => XS.iload X31.here hx rfl (hb hby d1_17) rfl k) ?_
  show own_Go _ _ _ _ (T31.setTop (mkF m 19 #[.val (.ref ar), .val (.int (own_mx (own_mx (0 : Int32) (v0 + (1 : Int32))) (v1 + (1 : Int32)))), .val (.ref ar), .val (.int (5 : Int32)), .val (.int (2 : Int32)), .val (.int v1)] [(.int (2 : Int32)), (.ref ar)]))
  obtain ⟨cl32, Ar32, -, Sz32, Nn32, Hs32, -⟩ := id V_ar
  have hin32 : ¬ ((2 : Int32) < 0 ∨ cl32.slots.size ≤ ((2 : Int32)).toNatClampNeg) := inb_of Sz32 ⟨(by decide : ¬ ((2 : Int32) < (0 : Int32))), (by decide : (2 : Int32) < (5 : Int32))⟩
  have hat32 : cl32.slots[((2 : Int32)).toNatClampNeg]? = some (.int v2) := Hs32.at hin32 rfl
  refine own_st (X31.iaload hx (j := (2 : Int32)) (v := (.int v2)) (by rw [eq31]; exact Ar32.1) (State.isArrayOf_alike hZ.alike Ar32.2.1) Ar32.2.2 hin32 hat32 (g := (mkF m 19 #[.val (.ref ar), .val (.int (own_mx (own_mx (0 : Int32) (v0 + (1 : Int32))) (v1 + (1 : Int32)))), .val (.ref ar), .val (.int (5 : Int32)), .val (.int (2 : Int32)), .val (.int v1)] [(.int (2 : Int32)), (.ref ar)])) rfl rfl (hb hby d1_19)) ?_
  show own_Go _ _ _ _ (T31.setTop (mkF m 20 #[.val (.ref ar), .val (.int (own_mx (own_mx (0 : Int32) (v0 + (1 : Int32))) (v1 + (1 : Int32)))), .val (.ref ar), .val (.int (5 : Int32)), .val (.int (2 : Int32)), .val (.int v1)] [(.int v2)]))
  refine own_st (fun _ k => XS.istore X31.here hx rfl (hb hby d1_20) rfl (l' := #[.val (.ref ar), .val (.int (own_mx (own_mx (0 : Int32) (v0 + (1 : Int32))) (v1 + (1 : Int32)))), .val (.ref ar), .val (.int (5 : Int32)), .val (.int (2 : Int32)), .val (.int v2)]) rfl k) ?_
  show own_Go _ _ _ _ (T31.setTop (mkF m 22 #[.val (.ref ar), .val (.int (own_mx (own_mx (0 : Int32) (v0 + (1 : Int32))) (v1 + (1 : Int32)))), .val (.ref ar), .val (.int (5 : Int32)), .val (.int (2 : Int32)), .val (.int v2)] []))
  refine own_st (fun _ k => XS.iloadN X31.here hx rfl (hb hby d1_22) rfl k) ?_
  show own_Go _ _ _ _ (T31.setTop (mkF m 23 #[.val (.ref ar), .val (.int (own_mx (own_mx (0 : Int32) (v0 + (1 : Int32))) (v1 + (1 : Int32)))), .val (.ref ar), .val (.int (5 : Int32)), .val (.int (2 : Int32)), .val (.int v2)] [(.int (own_mx (own_mx (0 : Int32) (v0 + (1 : Int32))) (v1 + (1 : Int32))))]))
  refine own_st (fun _ k => XS.iload X31.here hx rfl (hb hby d1_23) rfl k) ?_
  show own_Go _ _ _ _ (T31.setTop (mkF m 25 #[.val (.ref ar), .val (.int (own_mx (own_mx (0 : Int32) (v0 + (1 : Int32))) (v1 + (1 : Int32)))), .val (.ref ar), .val (.int (5 : Int32)), .val (.int (2 : Int32)), .val (.int v2)] [(.int v2), (.int (own_mx (own_mx (0 : Int32) (v0 + (1 : Int32))) (v1 + (1 : Int32))))]))
  refine own_st (fun _ k => XS.iconst X31.here hx rfl (hb hby d1_25) k) ?_
  show own_Go _ _ _ _ (T31.setTop (mkF m 26 #[.val (.ref ar), .val (.int (own_mx (own_mx (0 : Int32) (v0 + (1 : Int32))) (v1 + (1 : Int32)))), .val (.ref ar), .val (.int (5 : Int32)), .val (.int (2 : Int32)), .val (.int v2)] [(.int (1 : Int32)), (.int v2), (.int (own_mx (own_mx (0 : Int32) (v0 + (1 : Int32))) (v1 + (1 : Int32))))]))
  refine own_st (fun _ k => XS.iadd X31.here hx rfl (hb hby d1_26) rfl k) ?_
  show own_Go _ _ _ _ (T31.setTop (mkF m 27 #[.val (.ref ar), .val (.int (own_mx (own_mx (0 : Int32) (v0 + (1 : Int32))) (v1 + (1 : Int32)))), .val (.ref ar), .val (.int (5 : Int32)), .val (.int (2 : Int32)), .val (.int v2)] [(.int (v2 + (1 : Int32))), (.int (own_mx (own_mx (0 : Int32) (v0 + (1 : Int32))) (v1 + (1 : Int32))))]))
  obtain ⟨_, _, ⟨T33, L33, k33, n33⟩, -, X33, ⟨Lc33, hQ33, l33, y33, z33⟩, st33⟩ := Jvm.LawKit.callS X31 hx (y := (⟨"java/lang/Math", "max", "(II)I"⟩ : MethodName)) hown (mvT hZ (hw _ (List.mem_of_getElem? (i := 6) rfl))) (mvT hZ (hw _ (List.mem_of_getElem? (i := 7) rfl))) (mvT hZ (hw _ (List.mem_of_getElem? (i := 8) rfl))) (mvT hZ (hw _ (List.mem_of_getElem? (i := 9) rfl))) (by decide) (backOf (W := 0) (rm2 l Z a0 hw [] (own_mx (own_mx (0 : Int32) (v0 + (1 : Int32))) (v1 + (1 : Int32))) (v2 + (1 : Int32)) h0 n0 Z0 ) hZ (hw _ (List.mem_of_getElem? (i := 9) rfl)) (hw _ (List.mem_of_getElem? (i := 8) rfl)) (by decide) (by decide)) (g := (mkF m 27 #[.val (.ref ar), .val (.int (own_mx (own_mx (0 : Int32) (v0 + (1 : Int32))) (v1 + (1 : Int32)))), .val (.ref ar), .val (.int (5 : Int32)), .val (.int (2 : Int32)), .val (.int v2)] [(.int (v2 + (1 : Int32))), (.int (own_mx (own_mx (0 : Int32) (v0 + (1 : Int32))) (v1 + (1 : Int32))))])) rfl (by rw [hml]; rfl) (argsL := [(.int (own_mx (own_mx (0 : Int32) (v0 + (1 : Int32))) (v1 + (1 : Int32)))), (.int (v2 + (1 : Int32)))]) (rest := []) (lenOf own_pd0 rfl) rfl (by show 2 * 0 + _ ≤ _; exact Nat.le_of_eq rfl) (hb hby d1_27) (fun _ _ => ⟨rfl, eq31, (by decide : 0 + 0 ≤ _), (by decide : 0 + 0 ≤ _)⟩)
  dsimp only [Pt.U, Pt.locs, Pt.cells, Pt.slots] at X33 l33 y33 z33 st33 hQ33
  subst l33 y33 z33
  obtain ⟨rfl, Nq33, eq33⟩ := hQ33
  have N33 := Fr.app N31 Nq33
  refine own_st st33 ?_
  show own_Go _ _ _ _ (T33.setTop (mkF m 30 #[.val (.ref ar), .val (.int (own_mx (own_mx (0 : Int32) (v0 + (1 : Int32))) (v1 + (1 : Int32)))), .val (.ref ar), .val (.int (5 : Int32)), .val (.int (2 : Int32)), .val (.int v2)] [(.int (own_mx (own_mx (own_mx (0 : Int32) (v0 + (1 : Int32))) (v1 + (1 : Int32))) (v2 + (1 : Int32))))]))
  refine own_st (fun _ k => XS.istoreN X33.here hx rfl (hb hby d1_30) rfl (l' := #[.val (.ref ar), .val (.int (own_mx (own_mx (own_mx (0 : Int32) (v0 + (1 : Int32))) (v1 + (1 : Int32))) (v2 + (1 : Int32)))), .val (.ref ar), .val (.int (5 : Int32)), .val (.int (2 : Int32)), .val (.int v2)]) rfl k) ?_
  show own_Go _ _ _ _ (T33.setTop (mkF m 31 #[.val (.ref ar), .val (.int (own_mx (own_mx (own_mx (0 : Int32) (v0 + (1 : Int32))) (v1 + (1 : Int32))) (v2 + (1 : Int32)))), .val (.ref ar), .val (.int (5 : Int32)), .val (.int (2 : Int32)), .val (.int v2)] []))
  refine own_st (fun _ k => XS.iinc X33.here hx rfl (hb hby d1_31) rfl (l' := #[.val (.ref ar), .val (.int (own_mx (own_mx (own_mx (0 : Int32) (v0 + (1 : Int32))) (v1 + (1 : Int32))) (v2 + (1 : Int32)))), .val (.ref ar), .val (.int (5 : Int32)), .val (.int (3 : Int32)), .val (.int v2)]) rfl k) ?_
  show own_Go _ _ _ _ (T33.setTop (mkF m 34 #[.val (.ref ar), .val (.int (own_mx (own_mx (own_mx (0 : Int32) (v0 + (1 : Int32))) (v1 + (1 : Int32))) (v2 + (1 : Int32)))), .val (.ref ar), .val (.int (5 : Int32)), .val (.int (3 : Int32)), .val (.int v2)] []))
  refine own_st (fun _ k => XS.goto X33.here hx rfl (pc0 := 34) (pc' := 10) rfl (hb hby d1_34) (by decide) (by decide) k) ?_
  show own_Go _ _ _ _ (T33.setTop (mkF m 10 #[.val (.ref ar), .val (.int (own_mx (own_mx (own_mx (0 : Int32) (v0 + (1 : Int32))) (v1 + (1 : Int32))) (v2 + (1 : Int32)))), .val (.ref ar), .val (.int (5 : Int32)), .val (.int (3 : Int32)), .val (.int v2)] []))
  refine own_st (fun _ k => XS.iload X33.here hx rfl (hb hby d1_10) rfl k) ?_
  show own_Go _ _ _ _ (T33.setTop (mkF m 12 #[.val (.ref ar), .val (.int (own_mx (own_mx (own_mx (0 : Int32) (v0 + (1 : Int32))) (v1 + (1 : Int32))) (v2 + (1 : Int32)))), .val (.ref ar), .val (.int (5 : Int32)), .val (.int (3 : Int32)), .val (.int v2)] [(.int (3 : Int32))]))
  refine own_st (fun _ k => XS.iloadN X33.here hx rfl (hb hby d1_12) rfl k) ?_
  show own_Go _ _ _ _ (T33.setTop (mkF m 13 #[.val (.ref ar), .val (.int (own_mx (own_mx (own_mx (0 : Int32) (v0 + (1 : Int32))) (v1 + (1 : Int32))) (v2 + (1 : Int32)))), .val (.ref ar), .val (.int (5 : Int32)), .val (.int (3 : Int32)), .val (.int v2)] [(.int (5 : Int32)), (.int (3 : Int32))]))
  refine own_st (fun _ k => XS.icmpNo X33.here hx rfl (hb hby d1_13) rfl (tlt (by decide : ((3 : Int32) < (5 : Int32)))).2.1 k) ?_
  show own_Go _ _ _ _ (T33.setTop (mkF m 16 #[.val (.ref ar), .val (.int (own_mx (own_mx (own_mx (0 : Int32) (v0 + (1 : Int32))) (v1 + (1 : Int32))) (v2 + (1 : Int32)))), .val (.ref ar), .val (.int (5 : Int32)), .val (.int (3 : Int32)), .val (.int v2)] []))
  refine own_st (fun _ k => XS.aloadN X33.here hx rfl (hb hby d1_16) rfl rfl k) ?_
  show own_Go _ _ _ _ (T33.setTop (mkF m 17 #[.val (.ref ar), .val (.int (own_mx (own_mx (own_mx (0 : Int32) (v0 + (1 : Int32))) (v1 + (1 : Int32))) (v2 + (1 : Int32)))), .val (.ref ar), .val (.int (5 : Int32)), .val (.int (3 : Int32)), .val (.int v2)] [(.ref ar)]))
  refine own_st (fun _ k => XS.iload X33.here hx rfl (hb hby d1_17) rfl k) ?_
  show own_Go _ _ _ _ (T33.setTop (mkF m 19 #[.val (.ref ar), .val (.int (own_mx (own_mx (own_mx (0 : Int32) (v0 + (1 : Int32))) (v1 + (1 : Int32))) (v2 + (1 : Int32)))), .val (.ref ar), .val (.int (5 : Int32)), .val (.int (3 : Int32)), .val (.int v2)] [(.int (3 : Int32)), (.ref ar)]))
  obtain ⟨cl34, Ar34, -, Sz34, Nn34, Hs34, -⟩ := id V_ar
  have hin34 : ¬ ((3 : Int32) < 0 ∨ cl34.slots.size ≤ ((3 : Int32)).toNatClampNeg) := inb_of Sz34 ⟨(by decide : ¬ ((3 : Int32) < (0 : Int32))), (by decide : (3 : Int32) < (5 : Int32))⟩
  have hat34 : cl34.slots[((3 : Int32)).toNatClampNeg]? = some (.int v3) := Hs34.at hin34 rfl
  refine own_st (X33.iaload hx (j := (3 : Int32)) (v := (.int v3)) (by rw [eq33]; exact Ar34.1) (State.isArrayOf_alike hZ.alike Ar34.2.1) Ar34.2.2 hin34 hat34 (g := (mkF m 19 #[.val (.ref ar), .val (.int (own_mx (own_mx (own_mx (0 : Int32) (v0 + (1 : Int32))) (v1 + (1 : Int32))) (v2 + (1 : Int32)))), .val (.ref ar), .val (.int (5 : Int32)), .val (.int (3 : Int32)), .val (.int v2)] [(.int (3 : Int32)), (.ref ar)])) rfl rfl (hb hby d1_19)) ?_
  show own_Go _ _ _ _ (T33.setTop (mkF m 20 #[.val (.ref ar), .val (.int (own_mx (own_mx (own_mx (0 : Int32) (v0 + (1 : Int32))) (v1 + (1 : Int32))) (v2 + (1 : Int32)))), .val (.ref ar), .val (.int (5 : Int32)), .val (.int (3 : Int32)), .val (.int v2)] [(.int v3)]))
  refine own_st (fun _ k => XS.istore X33.here hx rfl (hb hby d1_20) rfl (l' := #[.val (.ref ar), .val (.int (own_mx (own_mx (own_mx (0 : Int32) (v0 + (1 : Int32))) (v1 + (1 : Int32))) (v2 + (1 : Int32)))), .val (.ref ar), .val (.int (5 : Int32)), .val (.int (3 : Int32)), .val (.int v3)]) rfl k) ?_
  show own_Go _ _ _ _ (T33.setTop (mkF m 22 #[.val (.ref ar), .val (.int (own_mx (own_mx (own_mx (0 : Int32) (v0 + (1 : Int32))) (v1 + (1 : Int32))) (v2 + (1 : Int32)))), .val (.ref ar), .val (.int (5 : Int32)), .val (.int (3 : Int32)), .val (.int v3)] []))
  refine own_st (fun _ k => XS.iloadN X33.here hx rfl (hb hby d1_22) rfl k) ?_
  show own_Go _ _ _ _ (T33.setTop (mkF m 23 #[.val (.ref ar), .val (.int (own_mx (own_mx (own_mx (0 : Int32) (v0 + (1 : Int32))) (v1 + (1 : Int32))) (v2 + (1 : Int32)))), .val (.ref ar), .val (.int (5 : Int32)), .val (.int (3 : Int32)), .val (.int v3)] [(.int (own_mx (own_mx (own_mx (0 : Int32) (v0 + (1 : Int32))) (v1 + (1 : Int32))) (v2 + (1 : Int32))))]))
  refine own_st (fun _ k => XS.iload X33.here hx rfl (hb hby d1_23) rfl k) ?_
  show own_Go _ _ _ _ (T33.setTop (mkF m 25 #[.val (.ref ar), .val (.int (own_mx (own_mx (own_mx (0 : Int32) (v0 + (1 : Int32))) (v1 + (1 : Int32))) (v2 + (1 : Int32)))), .val (.ref ar), .val (.int (5 : Int32)), .val (.int (3 : Int32)), .val (.int v3)] [(.int v3), (.int (own_mx (own_mx (own_mx (0 : Int32) (v0 + (1 : Int32))) (v1 + (1 : Int32))) (v2 + (1 : Int32))))]))
  refine own_st (fun _ k => XS.iconst X33.here hx rfl (hb hby d1_25) k) ?_
  show own_Go _ _ _ _ (T33.setTop (mkF m 26 #[.val (.ref ar), .val (.int (own_mx (own_mx (own_mx (0 : Int32) (v0 + (1 : Int32))) (v1 + (1 : Int32))) (v2 + (1 : Int32)))), .val (.ref ar), .val (.int (5 : Int32)), .val (.int (3 : Int32)), .val (.int v3)] [(.int (1 : Int32)), (.int v3), (.int (own_mx (own_mx (own_mx (0 : Int32) (v0 + (1 : Int32))) (v1 + (1 : Int32))) (v2 + (1 : Int32))))]))
  refine own_st (fun _ k => XS.iadd X33.here hx rfl (hb hby d1_26) rfl k) ?_
  show own_Go _ _ _ _ (T33.setTop (mkF m 27 #[.val (.ref ar), .val (.int (own_mx (own_mx (own_mx (0 : Int32) (v0 + (1 : Int32))) (v1 + (1 : Int32))) (v2 + (1 : Int32)))), .val (.ref ar), .val (.int (5 : Int32)), .val (.int (3 : Int32)), .val (.int v3)] [(.int (v3 + (1 : Int32))), (.int (own_mx (own_mx (own_mx (0 : Int32) (v0 + (1 : Int32))) (v1 + (1 : Int32))) (v2 + (1 : Int32))))]))
  obtain ⟨_, _, ⟨T35, L35, k35, n35⟩, -, X35, ⟨Lc35, hQ35, l35, y35, z35⟩, st35⟩ := Jvm.LawKit.callS X33 hx (y := (⟨"java/lang/Math", "max", "(II)I"⟩ : MethodName)) hown (mvT hZ (hw _ (List.mem_of_getElem? (i := 6) rfl))) (mvT hZ (hw _ (List.mem_of_getElem? (i := 7) rfl))) (mvT hZ (hw _ (List.mem_of_getElem? (i := 8) rfl))) (mvT hZ (hw _ (List.mem_of_getElem? (i := 9) rfl))) (by decide) (backOf (W := 0) (rm2 l Z a0 hw [] (own_mx (own_mx (own_mx (0 : Int32) (v0 + (1 : Int32))) (v1 + (1 : Int32))) (v2 + (1 : Int32))) (v3 + (1 : Int32)) h0 n0 Z0 ) hZ (hw _ (List.mem_of_getElem? (i := 9) rfl)) (hw _ (List.mem_of_getElem? (i := 8) rfl)) (by decide) (by decide)) (g := (mkF m 27 #[.val (.ref ar), .val (.int (own_mx (own_mx (own_mx (0 : Int32) (v0 + (1 : Int32))) (v1 + (1 : Int32))) (v2 + (1 : Int32)))), .val (.ref ar), .val (.int (5 : Int32)), .val (.int (3 : Int32)), .val (.int v3)] [(.int (v3 + (1 : Int32))), (.int (own_mx (own_mx (own_mx (0 : Int32) (v0 + (1 : Int32))) (v1 + (1 : Int32))) (v2 + (1 : Int32))))])) rfl (by rw [hml]; rfl) (argsL := [(.int (own_mx (own_mx (own_mx (0 : Int32) (v0 + (1 : Int32))) (v1 + (1 : Int32))) (v2 + (1 : Int32)))), (.int (v3 + (1 : Int32)))]) (rest := []) (lenOf own_pd0 rfl) rfl (by show 2 * 0 + _ ≤ _; exact Nat.le_of_eq rfl) (hb hby d1_27) (fun _ _ => ⟨rfl, eq33, (by decide : 0 + 0 ≤ _), (by decide : 0 + 0 ≤ _)⟩)
  dsimp only [Pt.U, Pt.locs, Pt.cells, Pt.slots] at X35 l35 y35 z35 st35 hQ35
  subst l35 y35 z35
  obtain ⟨rfl, Nq35, eq35⟩ := hQ35
  have N35 := Fr.app N33 Nq35
  refine own_st st35 ?_
  show own_Go _ _ _ _ (T35.setTop (mkF m 30 #[.val (.ref ar), .val (.int (own_mx (own_mx (own_mx (0 : Int32) (v0 + (1 : Int32))) (v1 + (1 : Int32))) (v2 + (1 : Int32)))), .val (.ref ar), .val (.int (5 : Int32)), .val (.int (3 : Int32)), .val (.int v3)] [(.int (own_mx (own_mx (own_mx (own_mx (0 : Int32) (v0 + (1 : Int32))) (v1 + (1 : Int32))) (v2 + (1 : Int32))) (v3 + (1 : Int32))))]))
  refine own_st (fun _ k => XS.istoreN X35.here hx rfl (hb hby d1_30) rfl (l' := #[.val (.ref ar), .val (.int (own_mx (own_mx (own_mx (own_mx (0 : Int32) (v0 + (1 : Int32))) (v1 + (1 : Int32))) (v2 + (1 : Int32))) (v3 + (1 : Int32)))), .val (.ref ar), .val (.int (5 : Int32)), .val (.int (3 : Int32)), .val (.int v3)]) rfl k) ?_
  show own_Go _ _ _ _ (T35.setTop (mkF m 31 #[.val (.ref ar), .val (.int (own_mx (own_mx (own_mx (own_mx (0 : Int32) (v0 + (1 : Int32))) (v1 + (1 : Int32))) (v2 + (1 : Int32))) (v3 + (1 : Int32)))), .val (.ref ar), .val (.int (5 : Int32)), .val (.int (3 : Int32)), .val (.int v3)] []))
  refine own_st (fun _ k => XS.iinc X35.here hx rfl (hb hby d1_31) rfl (l' := #[.val (.ref ar), .val (.int (own_mx (own_mx (own_mx (own_mx (0 : Int32) (v0 + (1 : Int32))) (v1 + (1 : Int32))) (v2 + (1 : Int32))) (v3 + (1 : Int32)))), .val (.ref ar), .val (.int (5 : Int32)), .val (.int (4 : Int32)), .val (.int v3)]) rfl k) ?_
  show own_Go _ _ _ _ (T35.setTop (mkF m 34 #[.val (.ref ar), .val (.int (own_mx (own_mx (own_mx (own_mx (0 : Int32) (v0 + (1 : Int32))) (v1 + (1 : Int32))) (v2 + (1 : Int32))) (v3 + (1 : Int32)))), .val (.ref ar), .val (.int (5 : Int32)), .val (.int (4 : Int32)), .val (.int v3)] []))
  refine own_st (fun _ k => XS.goto X35.here hx rfl (pc0 := 34) (pc' := 10) rfl (hb hby d1_34) (by decide) (by decide) k) ?_
  show own_Go _ _ _ _ (T35.setTop (mkF m 10 #[.val (.ref ar), .val (.int (own_mx (own_mx (own_mx (own_mx (0 : Int32) (v0 + (1 : Int32))) (v1 + (1 : Int32))) (v2 + (1 : Int32))) (v3 + (1 : Int32)))), .val (.ref ar), .val (.int (5 : Int32)), .val (.int (4 : Int32)), .val (.int v3)] []))
  refine own_st (fun _ k => XS.iload X35.here hx rfl (hb hby d1_10) rfl k) ?_
  show own_Go _ _ _ _ (T35.setTop (mkF m 12 #[.val (.ref ar), .val (.int (own_mx (own_mx (own_mx (own_mx (0 : Int32) (v0 + (1 : Int32))) (v1 + (1 : Int32))) (v2 + (1 : Int32))) (v3 + (1 : Int32)))), .val (.ref ar), .val (.int (5 : Int32)), .val (.int (4 : Int32)), .val (.int v3)] [(.int (4 : Int32))]))
  refine own_st (fun _ k => XS.iloadN X35.here hx rfl (hb hby d1_12) rfl k) ?_
  show own_Go _ _ _ _ (T35.setTop (mkF m 13 #[.val (.ref ar), .val (.int (own_mx (own_mx (own_mx (own_mx (0 : Int32) (v0 + (1 : Int32))) (v1 + (1 : Int32))) (v2 + (1 : Int32))) (v3 + (1 : Int32)))), .val (.ref ar), .val (.int (5 : Int32)), .val (.int (4 : Int32)), .val (.int v3)] [(.int (5 : Int32)), (.int (4 : Int32))]))
  refine own_st (fun _ k => XS.icmpNo X35.here hx rfl (hb hby d1_13) rfl (tlt (by decide : ((4 : Int32) < (5 : Int32)))).2.1 k) ?_
  show own_Go _ _ _ _ (T35.setTop (mkF m 16 #[.val (.ref ar), .val (.int (own_mx (own_mx (own_mx (own_mx (0 : Int32) (v0 + (1 : Int32))) (v1 + (1 : Int32))) (v2 + (1 : Int32))) (v3 + (1 : Int32)))), .val (.ref ar), .val (.int (5 : Int32)), .val (.int (4 : Int32)), .val (.int v3)] []))
  refine own_st (fun _ k => XS.aloadN X35.here hx rfl (hb hby d1_16) rfl rfl k) ?_
  show own_Go _ _ _ _ (T35.setTop (mkF m 17 #[.val (.ref ar), .val (.int (own_mx (own_mx (own_mx (own_mx (0 : Int32) (v0 + (1 : Int32))) (v1 + (1 : Int32))) (v2 + (1 : Int32))) (v3 + (1 : Int32)))), .val (.ref ar), .val (.int (5 : Int32)), .val (.int (4 : Int32)), .val (.int v3)] [(.ref ar)]))
  refine own_st (fun _ k => XS.iload X35.here hx rfl (hb hby d1_17) rfl k) ?_
  show own_Go _ _ _ _ (T35.setTop (mkF m 19 #[.val (.ref ar), .val (.int (own_mx (own_mx (own_mx (own_mx (0 : Int32) (v0 + (1 : Int32))) (v1 + (1 : Int32))) (v2 + (1 : Int32))) (v3 + (1 : Int32)))), .val (.ref ar), .val (.int (5 : Int32)), .val (.int (4 : Int32)), .val (.int v3)] [(.int (4 : Int32)), (.ref ar)]))
  obtain ⟨cl36, Ar36, -, Sz36, Nn36, Hs36, -⟩ := id V_ar
  have hin36 : ¬ ((4 : Int32) < 0 ∨ cl36.slots.size ≤ ((4 : Int32)).toNatClampNeg) := inb_of Sz36 ⟨(by decide : ¬ ((4 : Int32) < (0 : Int32))), (by decide : (4 : Int32) < (5 : Int32))⟩
  have hat36 : cl36.slots[((4 : Int32)).toNatClampNeg]? = some (.int v4) := Hs36.at hin36 rfl
  refine own_st (X35.iaload hx (j := (4 : Int32)) (v := (.int v4)) (by rw [eq35]; exact Ar36.1) (State.isArrayOf_alike hZ.alike Ar36.2.1) Ar36.2.2 hin36 hat36 (g := (mkF m 19 #[.val (.ref ar), .val (.int (own_mx (own_mx (own_mx (own_mx (0 : Int32) (v0 + (1 : Int32))) (v1 + (1 : Int32))) (v2 + (1 : Int32))) (v3 + (1 : Int32)))), .val (.ref ar), .val (.int (5 : Int32)), .val (.int (4 : Int32)), .val (.int v3)] [(.int (4 : Int32)), (.ref ar)])) rfl rfl (hb hby d1_19)) ?_
  show own_Go _ _ _ _ (T35.setTop (mkF m 20 #[.val (.ref ar), .val (.int (own_mx (own_mx (own_mx (own_mx (0 : Int32) (v0 + (1 : Int32))) (v1 + (1 : Int32))) (v2 + (1 : Int32))) (v3 + (1 : Int32)))), .val (.ref ar), .val (.int (5 : Int32)), .val (.int (4 : Int32)), .val (.int v3)] [(.int v4)]))
  refine own_st (fun _ k => XS.istore X35.here hx rfl (hb hby d1_20) rfl (l' := #[.val (.ref ar), .val (.int (own_mx (own_mx (own_mx (own_mx (0 : Int32) (v0 + (1 : Int32))) (v1 + (1 : Int32))) (v2 + (1 : Int32))) (v3 + (1 : Int32)))), .val (.ref ar), .val (.int (5 : Int32)), .val (.int (4 : Int32)), .val (.int v4)]) rfl k) ?_
  show own_Go _ _ _ _ (T35.setTop (mkF m 22 #[.val (.ref ar), .val (.int (own_mx (own_mx (own_mx (own_mx (0 : Int32) (v0 + (1 : Int32))) (v1 + (1 : Int32))) (v2 + (1 : Int32))) (v3 + (1 : Int32)))), .val (.ref ar), .val (.int (5 : Int32)), .val (.int (4 : Int32)), .val (.int v4)] []))
  refine own_st (fun _ k => XS.iloadN X35.here hx rfl (hb hby d1_22) rfl k) ?_
  show own_Go _ _ _ _ (T35.setTop (mkF m 23 #[.val (.ref ar), .val (.int (own_mx (own_mx (own_mx (own_mx (0 : Int32) (v0 + (1 : Int32))) (v1 + (1 : Int32))) (v2 + (1 : Int32))) (v3 + (1 : Int32)))), .val (.ref ar), .val (.int (5 : Int32)), .val (.int (4 : Int32)), .val (.int v4)] [(.int (own_mx (own_mx (own_mx (own_mx (0 : Int32) (v0 + (1 : Int32))) (v1 + (1 : Int32))) (v2 + (1 : Int32))) (v3 + (1 : Int32))))]))
  refine own_st (fun _ k => XS.iload X35.here hx rfl (hb hby d1_23) rfl k) ?_
  show own_Go _ _ _ _ (T35.setTop (mkF m 25 #[.val (.ref ar), .val (.int (own_mx (own_mx (own_mx (own_mx (0 : Int32) (v0 + (1 : Int32))) (v1 + (1 : Int32))) (v2 + (1 : Int32))) (v3 + (1 : Int32)))), .val (.ref ar), .val (.int (5 : Int32)), .val (.int (4 : Int32)), .val (.int v4)] [(.int v4), (.int (own_mx (own_mx (own_mx (own_mx (0 : Int32) (v0 + (1 : Int32))) (v1 + (1 : Int32))) (v2 + (1 : Int32))) (v3 + (1 : Int32))))]))
  refine own_st (fun _ k => XS.iconst X35.here hx rfl (hb hby d1_25) k) ?_
  show own_Go _ _ _ _ (T35.setTop (mkF m 26 #[.val (.ref ar), .val (.int (own_mx (own_mx (own_mx (own_mx (0 : Int32) (v0 + (1 : Int32))) (v1 + (1 : Int32))) (v2 + (1 : Int32))) (v3 + (1 : Int32)))), .val (.ref ar), .val (.int (5 : Int32)), .val (.int (4 : Int32)), .val (.int v4)] [(.int (1 : Int32)), (.int v4), (.int (own_mx (own_mx (own_mx (own_mx (0 : Int32) (v0 + (1 : Int32))) (v1 + (1 : Int32))) (v2 + (1 : Int32))) (v3 + (1 : Int32))))]))
  refine own_st (fun _ k => XS.iadd X35.here hx rfl (hb hby d1_26) rfl k) ?_
  show own_Go _ _ _ _ (T35.setTop (mkF m 27 #[.val (.ref ar), .val (.int (own_mx (own_mx (own_mx (own_mx (0 : Int32) (v0 + (1 : Int32))) (v1 + (1 : Int32))) (v2 + (1 : Int32))) (v3 + (1 : Int32)))), .val (.ref ar), .val (.int (5 : Int32)), .val (.int (4 : Int32)), .val (.int v4)] [(.int (v4 + (1 : Int32))), (.int (own_mx (own_mx (own_mx (own_mx (0 : Int32) (v0 + (1 : Int32))) (v1 + (1 : Int32))) (v2 + (1 : Int32))) (v3 + (1 : Int32))))]))
  obtain ⟨_, _, ⟨T37, L37, k37, n37⟩, -, X37, ⟨Lc37, hQ37, l37, y37, z37⟩, st37⟩ := Jvm.LawKit.callS X35 hx (y := (⟨"java/lang/Math", "max", "(II)I"⟩ : MethodName)) hown (mvT hZ (hw _ (List.mem_of_getElem? (i := 6) rfl))) (mvT hZ (hw _ (List.mem_of_getElem? (i := 7) rfl))) (mvT hZ (hw _ (List.mem_of_getElem? (i := 8) rfl))) (mvT hZ (hw _ (List.mem_of_getElem? (i := 9) rfl))) (by decide) (backOf (W := 0) (rm2 l Z a0 hw [] (own_mx (own_mx (own_mx (own_mx (0 : Int32) (v0 + (1 : Int32))) (v1 + (1 : Int32))) (v2 + (1 : Int32))) (v3 + (1 : Int32))) (v4 + (1 : Int32)) h0 n0 Z0 ) hZ (hw _ (List.mem_of_getElem? (i := 9) rfl)) (hw _ (List.mem_of_getElem? (i := 8) rfl)) (by decide) (by decide)) (g := (mkF m 27 #[.val (.ref ar), .val (.int (own_mx (own_mx (own_mx (own_mx (0 : Int32) (v0 + (1 : Int32))) (v1 + (1 : Int32))) (v2 + (1 : Int32))) (v3 + (1 : Int32)))), .val (.ref ar), .val (.int (5 : Int32)), .val (.int (4 : Int32)), .val (.int v4)] [(.int (v4 + (1 : Int32))), (.int (own_mx (own_mx (own_mx (own_mx (0 : Int32) (v0 + (1 : Int32))) (v1 + (1 : Int32))) (v2 + (1 : Int32))) (v3 + (1 : Int32))))])) rfl (by rw [hml]; rfl) (argsL := [(.int (own_mx (own_mx (own_mx (own_mx (0 : Int32) (v0 + (1 : Int32))) (v1 + (1 : Int32))) (v2 + (1 : Int32))) (v3 + (1 : Int32)))), (.int (v4 + (1 : Int32)))]) (rest := []) (lenOf own_pd0 rfl) rfl (by show 2 * 0 + _ ≤ _; exact Nat.le_of_eq rfl) (hb hby d1_27) (fun _ _ => ⟨rfl, eq35, (by decide : 0 + 0 ≤ _), (by decide : 0 + 0 ≤ _)⟩)
  dsimp only [Pt.U, Pt.locs, Pt.cells, Pt.slots] at X37 l37 y37 z37 st37 hQ37
  subst l37 y37 z37
  obtain ⟨rfl, Nq37, eq37⟩ := hQ37
  have N37 := Fr.app N35 Nq37
  refine own_st st37 ?_
  show own_Go _ _ _ _ (T37.setTop (mkF m 30 #[.val (.ref ar), .val (.int (own_mx (own_mx (own_mx (own_mx (0 : Int32) (v0 + (1 : Int32))) (v1 + (1 : Int32))) (v2 + (1 : Int32))) (v3 + (1 : Int32)))), .val (.ref ar), .val (.int (5 : Int32)), .val (.int (4 : Int32)), .val (.int v4)] [(.int (own_mx (own_mx (own_mx (own_mx (own_mx (0 : Int32) (v0 + (1 : Int32))) (v1 + (1 : Int32))) (v2 + (1 : Int32))) (v3 + (1 : Int32))) (v4 + (1 : Int32))))]))
  refine own_st (fun _ k => XS.istoreN X37.here hx rfl (hb hby d1_30) rfl (l' := #[.val (.ref ar), .val (.int (own_mx (own_mx (own_mx (own_mx (own_mx (0 : Int32) (v0 + (1 : Int32))) (v1 + (1 : Int32))) (v2 + (1 : Int32))) (v3 + (1 : Int32))) (v4 + (1 : Int32)))), .val (.ref ar), .val (.int (5 : Int32)), .val (.int (4 : Int32)), .val (.int v4)]) rfl k) ?_
  show own_Go _ _ _ _ (T37.setTop (mkF m 31 #[.val (.ref ar), .val (.int (own_mx (own_mx (own_mx (own_mx (own_mx (0 : Int32) (v0 + (1 : Int32))) (v1 + (1 : Int32))) (v2 + (1 : Int32))) (v3 + (1 : Int32))) (v4 + (1 : Int32)))), .val (.ref ar), .val (.int (5 : Int32)), .val (.int (4 : Int32)), .val (.int v4)] []))
  refine own_st (fun _ k => XS.iinc X37.here hx rfl (hb hby d1_31) rfl (l' := #[.val (.ref ar), .val (.int (own_mx (own_mx (own_mx (own_mx (own_mx (0 : Int32) (v0 + (1 : Int32))) (v1 + (1 : Int32))) (v2 + (1 : Int32))) (v3 + (1 : Int32))) (v4 + (1 : Int32)))), .val (.ref ar), .val (.int (5 : Int32)), .val (.int (5 : Int32)), .val (.int v4)]) rfl k) ?_
  show own_Go _ _ _ _ (T37.setTop (mkF m 34 #[.val (.ref ar), .val (.int (own_mx (own_mx (own_mx (own_mx (own_mx (0 : Int32) (v0 + (1 : Int32))) (v1 + (1 : Int32))) (v2 + (1 : Int32))) (v3 + (1 : Int32))) (v4 + (1 : Int32)))), .val (.ref ar), .val (.int (5 : Int32)), .val (.int (5 : Int32)), .val (.int v4)] []))
  refine own_st (fun _ k => XS.goto X37.here hx rfl (pc0 := 34) (pc' := 10) rfl (hb hby d1_34) (by decide) (by decide) k) ?_
  show own_Go _ _ _ _ (T37.setTop (mkF m 10 #[.val (.ref ar), .val (.int (own_mx (own_mx (own_mx (own_mx (own_mx (0 : Int32) (v0 + (1 : Int32))) (v1 + (1 : Int32))) (v2 + (1 : Int32))) (v3 + (1 : Int32))) (v4 + (1 : Int32)))), .val (.ref ar), .val (.int (5 : Int32)), .val (.int (5 : Int32)), .val (.int v4)] []))
  refine own_st (fun _ k => XS.iload X37.here hx rfl (hb hby d1_10) rfl k) ?_
  show own_Go _ _ _ _ (T37.setTop (mkF m 12 #[.val (.ref ar), .val (.int (own_mx (own_mx (own_mx (own_mx (own_mx (0 : Int32) (v0 + (1 : Int32))) (v1 + (1 : Int32))) (v2 + (1 : Int32))) (v3 + (1 : Int32))) (v4 + (1 : Int32)))), .val (.ref ar), .val (.int (5 : Int32)), .val (.int (5 : Int32)), .val (.int v4)] [(.int (5 : Int32))]))
  refine own_st (fun _ k => XS.iloadN X37.here hx rfl (hb hby d1_12) rfl k) ?_
  show own_Go _ _ _ _ (T37.setTop (mkF m 13 #[.val (.ref ar), .val (.int (own_mx (own_mx (own_mx (own_mx (own_mx (0 : Int32) (v0 + (1 : Int32))) (v1 + (1 : Int32))) (v2 + (1 : Int32))) (v3 + (1 : Int32))) (v4 + (1 : Int32)))), .val (.ref ar), .val (.int (5 : Int32)), .val (.int (5 : Int32)), .val (.int v4)] [(.int (5 : Int32)), (.int (5 : Int32))]))
  refine own_st (fun _ k => XS.icmpYes X37.here hx rfl (pc0 := 13) (pc' := 37) rfl (hb hby d1_13) rfl (flt (by decide : ¬ ((5 : Int32) < (5 : Int32)))).2.1 (by decide) (by decide) k) ?_
  show own_Go _ _ _ _ (T37.setTop (mkF m 37 #[.val (.ref ar), .val (.int (own_mx (own_mx (own_mx (own_mx (own_mx (0 : Int32) (v0 + (1 : Int32))) (v1 + (1 : Int32))) (v2 + (1 : Int32))) (v3 + (1 : Int32))) (v4 + (1 : Int32)))), .val (.ref ar), .val (.int (5 : Int32)), .val (.int (5 : Int32)), .val (.int v4)] []))
  refine own_st (fun _ k => XS.iloadN X37.here hx rfl (hb hby d1_37) rfl k) ?_
  show own_Go _ _ _ _ (T37.setTop (mkF m 38 #[.val (.ref ar), .val (.int (own_mx (own_mx (own_mx (own_mx (own_mx (0 : Int32) (v0 + (1 : Int32))) (v1 + (1 : Int32))) (v2 + (1 : Int32))) (v3 + (1 : Int32))) (v4 + (1 : Int32)))), .val (.ref ar), .val (.int (5 : Int32)), .val (.int (5 : Int32)), .val (.int v4)] [(.int (own_mx (own_mx (own_mx (own_mx (own_mx (0 : Int32) (v0 + (1 : Int32))) (v1 + (1 : Int32))) (v2 + (1 : Int32))) (v3 + (1 : Int32))) (v4 + (1 : Int32))))]))
  obtain ⟨fs, hr, hrun, hended, hW, hsame⟩ := X37.leave (v := some (.int (own_mx (own_mx (own_mx (own_mx (own_mx (0 : Int32) (v0 + (1 : Int32))) (v1 + (1 : Int32))) (v2 + (1 : Int32))) (v3 + (1 : Int32))) (v4 + (1 : Int32))))) (fun h => by rw [Bd.returns] at h; cases h)
  refine own_out (own_retI X37 hx Bd.returns (hb hby d1_38) hr) ⟨hrun, hended, _, _, rfl, ?_, ⟨_, rfl⟩, hW, hsame.mono (by decide) (by decide)⟩
  show Q1_5 Z ar kk v0 v1 v2 v3 v4 h0 n0 _ T37.heap _
  have hv : own_cc5 v0 v1 v2 v3 v4 = (own_mx (own_mx (own_mx (own_mx (own_mx (0 : Int32) (v0 + (1 : Int32))) (v1 + (1 : Int32))) (v2 + (1 : Int32))) (v3 + (1 : Int32))) (v4 + (1 : Int32))) := rfl
  exact ⟨by rw [hv], N37, eq37⟩
theorem own_mxi (a b : Int32) : (own_mx a b).toInt = if a.toInt < b.toInt then b.toInt else a.toInt := by
  unfold own_mx
  simp only [Int32.lt_iff_toInt_lt]
  split <;> rfl
theorem own_up (k : Int32) (h : 0 ≤ k.toInt ∧ k.toInt ≤ 9) : (k + (1 : Int32)).toInt = k.toInt + 1 := by
  have a := c_iadd k 1
  have r := rng32 (k + 1)
  simp only [Int32.reduceToInt] at a
  omega
theorem own_nz (k : Int32) (h : 0 ≤ k.toInt ∧ k.toInt ≤ 9) : ¬ ((k + (1 : Int32)) = (0 : Int32)) := by
  rw [← Int32.toInt_inj, own_up k h]
  simp only [Int32.reduceToInt]
  omega
theorem own_l (u k : Int32) (h : 0 ≤ k.toInt ∧ k.toInt ≤ 9) : 0 ≤ ((u &&& (2147483647 : Int32)) - ((u &&& (2147483647 : Int32)) / (k + (1 : Int32))) * (k + (1 : Int32))).toInt ∧ ((u &&& (2147483647 : Int32)) - ((u &&& (2147483647 : Int32)) / (k + (1 : Int32))) * (k + (1 : Int32))).toInt ≤ k.toInt := by
  have m := c_mask u 2147483647 31 (by decide) (by decide)
  have y := own_up k h
  generalize (u &&& (2147483647 : Int32)) = v at *
  generalize hD : (k + (1 : Int32)) = D at *
  have hn : D ≠ -1 := by intro q; rw [q] at y; simp only [Int32.reduceToInt] at y; omega
  have d := (c_idiv v D D.toInt rfl hn).1 (by omega)
  have h2 := c_imul (v / D) D
  have r2 := rng32 ((v / D) * D)
  have h3 := c_isub v ((v / D) * D)
  have r3 := rng32 (v - (v / D) * D)
  have rv := rng32 v
  rw [d, Int.mul_comm] at h2
  have e := Int.emod_add_mul_ediv v.toInt D.toInt
  have e1 := Int.emod_nonneg v.toInt (show D.toInt ≠ 0 by omega)
  have e2 := Int.emod_lt_of_pos v.toInt (show 0 < D.toInt by omega)
  generalize v.toInt % D.toInt = G at *
  generalize D.toInt * (v.toInt / D.toInt) = H at *
  omega
/-- a label and the number of components behind it -/
def own_J (k : Int32) (q : Int32 × Int32) : Prop := (0 ≤ q.1.toInt ∧ q.1.toInt ≤ k.toInt) ∧ (0 ≤ q.2.toInt ∧ q.2.toInt ≤ k.toInt + 1) ∧ q.2.toInt = (if k.toInt < q.1.toInt + 1 then q.1.toInt + 1 else k.toInt)
theorem own_Jy (k l : Int32) (h : 0 ≤ k.toInt ∧ k.toInt ≤ 8) (hl : 0 ≤ l.toInt ∧ l.toInt ≤ k.toInt) (e : l = k) : own_J k (l, k + (1 : Int32)) := by
  subst e
  have u := own_up l (by omega)
  refine ⟨hl, ?_, ?_⟩
  · show 0 ≤ (l + 1).toInt ∧ (l + 1).toInt ≤ _
    omega
  · show (l + 1).toInt = _
    rw [if_pos (by show l.toInt < l.toInt + 1; omega)]; exact u
theorem own_Jn (k l : Int32) (h : 0 ≤ k.toInt ∧ k.toInt ≤ 8) (hl : 0 ≤ l.toInt ∧ l.toInt ≤ k.toInt) (e : ¬ l = k) : own_J k (l, k) := by
  rw [← Int32.toInt_inj] at e
  refine ⟨hl, ?_, ?_⟩
  · show 0 ≤ k.toInt ∧ k.toInt ≤ _
    omega
  · show k.toInt = _
    rw [if_neg (by show ¬ k.toInt < l.toInt + 1; omega)]
theorem own_pd2 : parseMethodDescriptor "(IIIII)Z" = some ⟨[.int, .int, .int, .int, .int], some .boolean⟩ := by decide +kernel
theorem own_pn1 : plainName "com/example/barred_owl/barredowl/EmbeddingComponentCountPinLaw" = true := by first | (simp [plainName, overriddenIn]; done) | decide +kernel
def Q0 (Z : State) (u0 : Int32) (u1 : Int32) (u2 : Int32) (u3 : Int32) (u4 : Int32) (h0 : Heap) (n0 : Nat) (v : Option Value) (h : Heap) (L : List Loc) : Prop := v = some (.int 1) ∧ Fr n0 L
theorem ef_0 (m : MethodId) (x0 : Int32) (x1 : Int32) (x2 : Int32) (x3 : Int32) (x4 : Int32) : entryFrame m #[(.int x0), (.int x1), (.int x2), (.int x3), (.int x4)] maxLocals = mkF m 0 #[.val (.int x0), .val (.int x1), .val (.int x2), .val (.int x3), .val (.int x4), .unset, .unset, .unset, .unset, .unset, .unset, .unset, .unset, .unset, .unset, .unset, .unset] [] := by first | (simp [entryFrame, mkF, argsToLocals, Value.category, maxLocals]; done) | rfl
set_option maxRecDepth 65536 in
set_option maxHeartbeats 40000000 in
theorem rm0 (l : Launch) (Z : State) (a0 : Array Value) (hw : ∀ d ∈ tables_1, d.before a0 Z = true) (ws : List Jvm.Cond) (u0 : Int32) (u1 : Int32) (u2 : Int32) (u3 : Int32) (u4 : Int32) (h0 : Heap) (n0 : Nat) (Z0 : n0 ≤ h0.size)  :
    MetFree l x (head1 (Jvm.Cond.code x code maxLocals ret :: ws) room_1) (fun a U => a = #[(.int u0), (.int u1), (.int u2), (.int u3), (.int u4)] ∧ Z.Warmed39 U.vm ∧ U.heap = h0) (fun _ _ _ _ _ => True) (fun _ U o U' => ∃ v L, o = .returned v ∧ Q0 Z u0 u1 u2 u3 u4 h0 n0 v U'.heap L ∧ FrameEnd U o U' L 16 128) := by
  refine MetFree.of_bodySF (plainFor_of_name own_pn1) hisR ?_
  intro p e s m args below meth c s₁ Bd hml0 hP hK
  obtain ⟨rfl, hZ, hh⟩ := hP
  have hx := Bd.exec
  have hby := Bd.bytes
  have hml : c.maxLocals = 17 := hml0
  have hown : s.vm.findClass "com/example/barred_owl/barredowl/EmbeddingComponentCountPinLaw" = some m.cls := findClass_of_methodNamed Bd.named
  have hnm := (name_of_methodNamed Bd.named Bd.method).1
  have X0 : Stand p l e room_1 s m #[(.int u0), (.int u1), (.int u2), (.int u3), (.int u4)] below meth c s₁ [] 0 0 := Stand.of_body Bd
  have e0 : s₁.heap = h0 := by rw [← hh, Bd.state]; rfl
  have N0 := Fr.nil n0
  refine own_in ?_
  refine own_st (fun _ k => castTop (ef_0 m u0 u1 u2 u3 u4) k) ?_
  have K0 : Keep h0 h0 [] := Keep.refl h0 []
  show own_Go _ _ _ _ (s₁.setTop (mkF m 0 #[.val (.int u0), .val (.int u1), .val (.int u2), .val (.int u3), .val (.int u4), .unset, .unset, .unset, .unset, .unset, .unset, .unset, .unset, .unset, .unset, .unset, .unset] []))
  refine own_st (fun _ k => XS.iloadN X0.here hx rfl (hb hby at_0) rfl k) ?_
  show own_Go _ _ _ _ (s₁.setTop (mkF m 1 #[.val (.int u0), .val (.int u1), .val (.int u2), .val (.int u3), .val (.int u4), .unset, .unset, .unset, .unset, .unset, .unset, .unset, .unset, .unset, .unset, .unset, .unset] [(.int u0)]))
  refine own_st (fun _ k => X0.ldcInt hx hown (mvT hZ (hw _ (List.mem_of_getElem? (i := 0) rfl))) (g := (mkF m 1 #[.val (.int u0), .val (.int u1), .val (.int u2), .val (.int u3), .val (.int u4), .unset, .unset, .unset, .unset, .unset, .unset, .unset, .unset, .unset, .unset, .unset, .unset] [(.int u0)])) rfl (hb hby at_1) _ k) ?_
  show own_Go _ _ _ _ (s₁.setTop (mkF m 3 #[.val (.int u0), .val (.int u1), .val (.int u2), .val (.int u3), .val (.int u4), .unset, .unset, .unset, .unset, .unset, .unset, .unset, .unset, .unset, .unset, .unset, .unset] [(.int (2147483647 : Int32)), (.int u0)]))
  refine own_st (fun _ k => XS.iand X0.here hx rfl (hb hby at_3) rfl k) ?_
  show own_Go _ _ _ _ (s₁.setTop (mkF m 4 #[.val (.int u0), .val (.int u1), .val (.int u2), .val (.int u3), .val (.int u4), .unset, .unset, .unset, .unset, .unset, .unset, .unset, .unset, .unset, .unset, .unset, .unset] [(.int (u0 &&& (2147483647 : Int32)))]))
  refine own_st (fun _ k => XS.bipush X0.here hx rfl (hb hby at_4) k) ?_
  show own_Go _ _ _ _ (s₁.setTop (mkF m 6 #[.val (.int u0), .val (.int u1), .val (.int u2), .val (.int u3), .val (.int u4), .unset, .unset, .unset, .unset, .unset, .unset, .unset, .unset, .unset, .unset, .unset, .unset] [(.int (6 : Int32)), (.int (u0 &&& (2147483647 : Int32)))]))
  refine own_st (fun _ k => XS.irem X0.here hx rfl (hb hby at_6) rfl (by decide : ¬ ((6 : Int32) = (0 : Int32))) k) ?_
  show own_Go _ _ _ _ (s₁.setTop (mkF m 7 #[.val (.int u0), .val (.int u1), .val (.int u2), .val (.int u3), .val (.int u4), .unset, .unset, .unset, .unset, .unset, .unset, .unset, .unset, .unset, .unset, .unset, .unset] [(.int ((u0 &&& (2147483647 : Int32)) - ((u0 &&& (2147483647 : Int32)) / (6 : Int32)) * (6 : Int32)))]))
  refine own_st (fun _ k => XS.istore X0.here hx rfl (hb hby at_7) rfl (l' := #[.val (.int u0), .val (.int u1), .val (.int u2), .val (.int u3), .val (.int u4), .val (.int ((u0 &&& (2147483647 : Int32)) - ((u0 &&& (2147483647 : Int32)) / (6 : Int32)) * (6 : Int32))), .unset, .unset, .unset, .unset, .unset, .unset, .unset, .unset, .unset, .unset, .unset]) rfl k) ?_
  show own_Go _ _ _ _ (s₁.setTop (mkF m 9 #[.val (.int u0), .val (.int u1), .val (.int u2), .val (.int u3), .val (.int u4), .val (.int ((u0 &&& (2147483647 : Int32)) - ((u0 &&& (2147483647 : Int32)) / (6 : Int32)) * (6 : Int32))), .unset, .unset, .unset, .unset, .unset, .unset, .unset, .unset, .unset, .unset, .unset] []))
  refine own_st (fun _ k => XS.iconst X0.here hx rfl (hb hby at_9) k) ?_
  show own_Go _ _ _ _ (s₁.setTop (mkF m 10 #[.val (.int u0), .val (.int u1), .val (.int u2), .val (.int u3), .val (.int u4), .val (.int ((u0 &&& (2147483647 : Int32)) - ((u0 &&& (2147483647 : Int32)) / (6 : Int32)) * (6 : Int32))), .unset, .unset, .unset, .unset, .unset, .unset, .unset, .unset, .unset, .unset, .unset] [(.int (1 : Int32))]))
  refine own_st (fun _ k => XS.istore X0.here hx rfl (hb hby at_10) rfl (l' := #[.val (.int u0), .val (.int u1), .val (.int u2), .val (.int u3), .val (.int u4), .val (.int ((u0 &&& (2147483647 : Int32)) - ((u0 &&& (2147483647 : Int32)) / (6 : Int32)) * (6 : Int32))), .val (.int (1 : Int32)), .unset, .unset, .unset, .unset, .unset, .unset, .unset, .unset, .unset, .unset]) rfl k) ?_
  show own_Go _ _ _ _ (s₁.setTop (mkF m 12 #[.val (.int u0), .val (.int u1), .val (.int u2), .val (.int u3), .val (.int u4), .val (.int ((u0 &&& (2147483647 : Int32)) - ((u0 &&& (2147483647 : Int32)) / (6 : Int32)) * (6 : Int32))), .val (.int (1 : Int32)), .unset, .unset, .unset, .unset, .unset, .unset, .unset, .unset, .unset, .unset] []))
  refine own_st (fun _ k => XS.iloadN X0.here hx rfl (hb hby at_12) rfl k) ?_
  show own_Go _ _ _ _ (s₁.setTop (mkF m 13 #[.val (.int u0), .val (.int u1), .val (.int u2), .val (.int u3), .val (.int u4), .val (.int ((u0 &&& (2147483647 : Int32)) - ((u0 &&& (2147483647 : Int32)) / (6 : Int32)) * (6 : Int32))), .val (.int (1 : Int32)), .unset, .unset, .unset, .unset, .unset, .unset, .unset, .unset, .unset, .unset] [(.int u1)]))
  refine own_st (fun _ k => X0.ldcInt hx hown (mvT hZ (hw _ (List.mem_of_getElem? (i := 0) rfl))) (g := (mkF m 13 #[.val (.int u0), .val (.int u1), .val (.int u2), .val (.int u3), .val (.int u4), .val (.int ((u0 &&& (2147483647 : Int32)) - ((u0 &&& (2147483647 : Int32)) / (6 : Int32)) * (6 : Int32))), .val (.int (1 : Int32)), .unset, .unset, .unset, .unset, .unset, .unset, .unset, .unset, .unset, .unset] [(.int u1)])) rfl (hb hby at_13) _ k) ?_
  show own_Go _ _ _ _ (s₁.setTop (mkF m 15 #[.val (.int u0), .val (.int u1), .val (.int u2), .val (.int u3), .val (.int u4), .val (.int ((u0 &&& (2147483647 : Int32)) - ((u0 &&& (2147483647 : Int32)) / (6 : Int32)) * (6 : Int32))), .val (.int (1 : Int32)), .unset, .unset, .unset, .unset, .unset, .unset, .unset, .unset, .unset, .unset] [(.int (2147483647 : Int32)), (.int u1)]))
  refine own_st (fun _ k => XS.iand X0.here hx rfl (hb hby at_15) rfl k) ?_
  show own_Go _ _ _ _ (s₁.setTop (mkF m 16 #[.val (.int u0), .val (.int u1), .val (.int u2), .val (.int u3), .val (.int u4), .val (.int ((u0 &&& (2147483647 : Int32)) - ((u0 &&& (2147483647 : Int32)) / (6 : Int32)) * (6 : Int32))), .val (.int (1 : Int32)), .unset, .unset, .unset, .unset, .unset, .unset, .unset, .unset, .unset, .unset] [(.int (u1 &&& (2147483647 : Int32)))]))
  refine own_st (fun _ k => XS.iload X0.here hx rfl (hb hby at_16) rfl k) ?_
  show own_Go _ _ _ _ (s₁.setTop (mkF m 18 #[.val (.int u0), .val (.int u1), .val (.int u2), .val (.int u3), .val (.int u4), .val (.int ((u0 &&& (2147483647 : Int32)) - ((u0 &&& (2147483647 : Int32)) / (6 : Int32)) * (6 : Int32))), .val (.int (1 : Int32)), .unset, .unset, .unset, .unset, .unset, .unset, .unset, .unset, .unset, .unset] [(.int (1 : Int32)), (.int (u1 &&& (2147483647 : Int32)))]))
  refine own_st (fun _ k => XS.iconst X0.here hx rfl (hb hby at_18) k) ?_
  show own_Go _ _ _ _ (s₁.setTop (mkF m 19 #[.val (.int u0), .val (.int u1), .val (.int u2), .val (.int u3), .val (.int u4), .val (.int ((u0 &&& (2147483647 : Int32)) - ((u0 &&& (2147483647 : Int32)) / (6 : Int32)) * (6 : Int32))), .val (.int (1 : Int32)), .unset, .unset, .unset, .unset, .unset, .unset, .unset, .unset, .unset, .unset] [(.int (1 : Int32)), (.int (1 : Int32)), (.int (u1 &&& (2147483647 : Int32)))]))
  refine own_st (fun _ k => XS.iadd X0.here hx rfl (hb hby at_19) rfl k) ?_
  show own_Go _ _ _ _ (s₁.setTop (mkF m 20 #[.val (.int u0), .val (.int u1), .val (.int u2), .val (.int u3), .val (.int u4), .val (.int ((u0 &&& (2147483647 : Int32)) - ((u0 &&& (2147483647 : Int32)) / (6 : Int32)) * (6 : Int32))), .val (.int (1 : Int32)), .unset, .unset, .unset, .unset, .unset, .unset, .unset, .unset, .unset, .unset] [(.int (2 : Int32)), (.int (u1 &&& (2147483647 : Int32)))]))
  refine own_st (fun _ k => XS.irem X0.here hx rfl (hb hby at_20) rfl (by decide : ¬ ((2 : Int32) = (0 : Int32))) k) ?_
  show own_Go _ _ _ _ (s₁.setTop (mkF m 21 #[.val (.int u0), .val (.int u1), .val (.int u2), .val (.int u3), .val (.int u4), .val (.int ((u0 &&& (2147483647 : Int32)) - ((u0 &&& (2147483647 : Int32)) / (6 : Int32)) * (6 : Int32))), .val (.int (1 : Int32)), .unset, .unset, .unset, .unset, .unset, .unset, .unset, .unset, .unset, .unset] [(.int ((u1 &&& (2147483647 : Int32)) - ((u1 &&& (2147483647 : Int32)) / (2 : Int32)) * (2 : Int32)))]))
  refine own_st (fun _ k => XS.istore X0.here hx rfl (hb hby at_21) rfl (l' := #[.val (.int u0), .val (.int u1), .val (.int u2), .val (.int u3), .val (.int u4), .val (.int ((u0 &&& (2147483647 : Int32)) - ((u0 &&& (2147483647 : Int32)) / (6 : Int32)) * (6 : Int32))), .val (.int (1 : Int32)), .val (.int ((u1 &&& (2147483647 : Int32)) - ((u1 &&& (2147483647 : Int32)) / (2 : Int32)) * (2 : Int32))), .unset, .unset, .unset, .unset, .unset, .unset, .unset, .unset, .unset]) rfl k) ?_
  show own_Go _ _ _ _ (s₁.setTop (mkF m 23 #[.val (.int u0), .val (.int u1), .val (.int u2), .val (.int u3), .val (.int u4), .val (.int ((u0 &&& (2147483647 : Int32)) - ((u0 &&& (2147483647 : Int32)) / (6 : Int32)) * (6 : Int32))), .val (.int (1 : Int32)), .val (.int ((u1 &&& (2147483647 : Int32)) - ((u1 &&& (2147483647 : Int32)) / (2 : Int32)) * (2 : Int32))), .unset, .unset, .unset, .unset, .unset, .unset, .unset, .unset, .unset] []))
  have hk0 : 0 ≤ ((1 : Int32)).toInt ∧ ((1 : Int32)).toInt ≤ 1 := by decide
  have hl0 : 0 ≤ (((u1 &&& (2147483647 : Int32)) - ((u1 &&& (2147483647 : Int32)) / (2 : Int32)) * (2 : Int32))).toInt ∧ (((u1 &&& (2147483647 : Int32)) - ((u1 &&& (2147483647 : Int32)) / (2 : Int32)) * (2 : Int32))).toInt ≤ ((1 : Int32)).toInt := own_l u1 1 (by decide)
  refine own_join (fun q : Int32 × Int32 => s₁.setTop (mkF m 41 #[.val (.int u0), .val (.int u1), .val (.int u2), .val (.int u3), .val (.int u4), .val (.int ((u0 &&& (2147483647 : Int32)) - ((u0 &&& (2147483647 : Int32)) / (6 : Int32)) * (6 : Int32))), .val (.int (1 : Int32)), .val (.int q.1), .val (.int q.2), .unset, .unset, .unset, .unset, .unset, .unset, .unset, .unset] [])) (fun q => own_J (1 : Int32) q) ?_ ?_
  · intro q hj38
    obtain ⟨l1, k2⟩ := q
    have hJ0 : own_J (1 : Int32) (l1, k2) := hj38
    have hb0 : 0 ≤ (k2).toInt ∧ (k2).toInt ≤ ((1 : Int32)).toInt + 1 := hJ0.2.1
    show own_Go _ _ _ _ (s₁.setTop (mkF m 41 #[.val (.int u0), .val (.int u1), .val (.int u2), .val (.int u3), .val (.int u4), .val (.int ((u0 &&& (2147483647 : Int32)) - ((u0 &&& (2147483647 : Int32)) / (6 : Int32)) * (6 : Int32))), .val (.int (1 : Int32)), .val (.int l1), .val (.int k2), .unset, .unset, .unset, .unset, .unset, .unset, .unset, .unset] []))
    refine own_st (fun _ k => XS.iloadN X0.here hx rfl (hb hby at_41) rfl k) ?_
    show own_Go _ _ _ _ (s₁.setTop (mkF m 42 #[.val (.int u0), .val (.int u1), .val (.int u2), .val (.int u3), .val (.int u4), .val (.int ((u0 &&& (2147483647 : Int32)) - ((u0 &&& (2147483647 : Int32)) / (6 : Int32)) * (6 : Int32))), .val (.int (1 : Int32)), .val (.int l1), .val (.int k2), .unset, .unset, .unset, .unset, .unset, .unset, .unset, .unset] [(.int u2)]))
    refine own_st (fun _ k => X0.ldcInt hx hown (mvT hZ (hw _ (List.mem_of_getElem? (i := 0) rfl))) (g := (mkF m 42 #[.val (.int u0), .val (.int u1), .val (.int u2), .val (.int u3), .val (.int u4), .val (.int ((u0 &&& (2147483647 : Int32)) - ((u0 &&& (2147483647 : Int32)) / (6 : Int32)) * (6 : Int32))), .val (.int (1 : Int32)), .val (.int l1), .val (.int k2), .unset, .unset, .unset, .unset, .unset, .unset, .unset, .unset] [(.int u2)])) rfl (hb hby at_42) _ k) ?_
    show own_Go _ _ _ _ (s₁.setTop (mkF m 44 #[.val (.int u0), .val (.int u1), .val (.int u2), .val (.int u3), .val (.int u4), .val (.int ((u0 &&& (2147483647 : Int32)) - ((u0 &&& (2147483647 : Int32)) / (6 : Int32)) * (6 : Int32))), .val (.int (1 : Int32)), .val (.int l1), .val (.int k2), .unset, .unset, .unset, .unset, .unset, .unset, .unset, .unset] [(.int (2147483647 : Int32)), (.int u2)]))
    refine own_st (fun _ k => XS.iand X0.here hx rfl (hb hby at_44) rfl k) ?_
    show own_Go _ _ _ _ (s₁.setTop (mkF m 45 #[.val (.int u0), .val (.int u1), .val (.int u2), .val (.int u3), .val (.int u4), .val (.int ((u0 &&& (2147483647 : Int32)) - ((u0 &&& (2147483647 : Int32)) / (6 : Int32)) * (6 : Int32))), .val (.int (1 : Int32)), .val (.int l1), .val (.int k2), .unset, .unset, .unset, .unset, .unset, .unset, .unset, .unset] [(.int (u2 &&& (2147483647 : Int32)))]))
    refine own_st (fun _ k => XS.iload X0.here hx rfl (hb hby at_45) rfl k) ?_
    show own_Go _ _ _ _ (s₁.setTop (mkF m 47 #[.val (.int u0), .val (.int u1), .val (.int u2), .val (.int u3), .val (.int u4), .val (.int ((u0 &&& (2147483647 : Int32)) - ((u0 &&& (2147483647 : Int32)) / (6 : Int32)) * (6 : Int32))), .val (.int (1 : Int32)), .val (.int l1), .val (.int k2), .unset, .unset, .unset, .unset, .unset, .unset, .unset, .unset] [(.int k2), (.int (u2 &&& (2147483647 : Int32)))]))
    refine own_st (fun _ k => XS.iconst X0.here hx rfl (hb hby at_47) k) ?_
    show own_Go _ _ _ _ (s₁.setTop (mkF m 48 #[.val (.int u0), .val (.int u1), .val (.int u2), .val (.int u3), .val (.int u4), .val (.int ((u0 &&& (2147483647 : Int32)) - ((u0 &&& (2147483647 : Int32)) / (6 : Int32)) * (6 : Int32))), .val (.int (1 : Int32)), .val (.int l1), .val (.int k2), .unset, .unset, .unset, .unset, .unset, .unset, .unset, .unset] [(.int (1 : Int32)), (.int k2), (.int (u2 &&& (2147483647 : Int32)))]))
    refine own_st (fun _ k => XS.iadd X0.here hx rfl (hb hby at_48) rfl k) ?_
    show own_Go _ _ _ _ (s₁.setTop (mkF m 49 #[.val (.int u0), .val (.int u1), .val (.int u2), .val (.int u3), .val (.int u4), .val (.int ((u0 &&& (2147483647 : Int32)) - ((u0 &&& (2147483647 : Int32)) / (6 : Int32)) * (6 : Int32))), .val (.int (1 : Int32)), .val (.int l1), .val (.int k2), .unset, .unset, .unset, .unset, .unset, .unset, .unset, .unset] [(.int (k2 + (1 : Int32))), (.int (u2 &&& (2147483647 : Int32)))]))
    refine own_st (fun _ k => XS.irem X0.here hx rfl (hb hby at_49) rfl (own_nz k2 ⟨hb0.1, by have := hb0.2; have := hk0; simp only [Int32.reduceToInt] at *; omega⟩) k) ?_
    show own_Go _ _ _ _ (s₁.setTop (mkF m 50 #[.val (.int u0), .val (.int u1), .val (.int u2), .val (.int u3), .val (.int u4), .val (.int ((u0 &&& (2147483647 : Int32)) - ((u0 &&& (2147483647 : Int32)) / (6 : Int32)) * (6 : Int32))), .val (.int (1 : Int32)), .val (.int l1), .val (.int k2), .unset, .unset, .unset, .unset, .unset, .unset, .unset, .unset] [(.int ((u2 &&& (2147483647 : Int32)) - ((u2 &&& (2147483647 : Int32)) / (k2 + (1 : Int32))) * (k2 + (1 : Int32))))]))
    refine own_st (fun _ k => XS.istore X0.here hx rfl (hb hby at_50) rfl (l' := #[.val (.int u0), .val (.int u1), .val (.int u2), .val (.int u3), .val (.int u4), .val (.int ((u0 &&& (2147483647 : Int32)) - ((u0 &&& (2147483647 : Int32)) / (6 : Int32)) * (6 : Int32))), .val (.int (1 : Int32)), .val (.int l1), .val (.int k2), .val (.int ((u2 &&& (2147483647 : Int32)) - ((u2 &&& (2147483647 : Int32)) / (k2 + (1 : Int32))) * (k2 + (1 : Int32)))), .unset, .unset, .unset, .unset, .unset, .unset, .unset]) rfl k) ?_
    show own_Go _ _ _ _ (s₁.setTop (mkF m 52 #[.val (.int u0), .val (.int u1), .val (.int u2), .val (.int u3), .val (.int u4), .val (.int ((u0 &&& (2147483647 : Int32)) - ((u0 &&& (2147483647 : Int32)) / (6 : Int32)) * (6 : Int32))), .val (.int (1 : Int32)), .val (.int l1), .val (.int k2), .val (.int ((u2 &&& (2147483647 : Int32)) - ((u2 &&& (2147483647 : Int32)) / (k2 + (1 : Int32))) * (k2 + (1 : Int32)))), .unset, .unset, .unset, .unset, .unset, .unset, .unset] []))
    have hk1 : 0 ≤ (k2).toInt ∧ (k2).toInt ≤ 2 := ⟨hb0.1, by have := hb0.2; have := hk0; simp only [Int32.reduceToInt] at *; omega⟩
    have hl1 : 0 ≤ (((u2 &&& (2147483647 : Int32)) - ((u2 &&& (2147483647 : Int32)) / (k2 + (1 : Int32))) * (k2 + (1 : Int32)))).toInt ∧ (((u2 &&& (2147483647 : Int32)) - ((u2 &&& (2147483647 : Int32)) / (k2 + (1 : Int32))) * (k2 + (1 : Int32)))).toInt ≤ (k2).toInt := own_l u2 k2 (by have := hk1; omega)
    refine own_join (fun q : Int32 × Int32 => s₁.setTop (mkF m 70 #[.val (.int u0), .val (.int u1), .val (.int u2), .val (.int u3), .val (.int u4), .val (.int ((u0 &&& (2147483647 : Int32)) - ((u0 &&& (2147483647 : Int32)) / (6 : Int32)) * (6 : Int32))), .val (.int (1 : Int32)), .val (.int l1), .val (.int k2), .val (.int q.1), .val (.int q.2), .unset, .unset, .unset, .unset, .unset, .unset] [])) (fun q => own_J k2 q) ?_ ?_
    · intro q hj39
      obtain ⟨l2, k3⟩ := q
      have hJ1 : own_J k2 (l2, k3) := hj39
      have hb1 : 0 ≤ (k3).toInt ∧ (k3).toInt ≤ (k2).toInt + 1 := hJ1.2.1
      show own_Go _ _ _ _ (s₁.setTop (mkF m 70 #[.val (.int u0), .val (.int u1), .val (.int u2), .val (.int u3), .val (.int u4), .val (.int ((u0 &&& (2147483647 : Int32)) - ((u0 &&& (2147483647 : Int32)) / (6 : Int32)) * (6 : Int32))), .val (.int (1 : Int32)), .val (.int l1), .val (.int k2), .val (.int l2), .val (.int k3), .unset, .unset, .unset, .unset, .unset, .unset] []))
      refine own_st (fun _ k => XS.iloadN X0.here hx rfl (hb hby at_70) rfl k) ?_
      show own_Go _ _ _ _ (s₁.setTop (mkF m 71 #[.val (.int u0), .val (.int u1), .val (.int u2), .val (.int u3), .val (.int u4), .val (.int ((u0 &&& (2147483647 : Int32)) - ((u0 &&& (2147483647 : Int32)) / (6 : Int32)) * (6 : Int32))), .val (.int (1 : Int32)), .val (.int l1), .val (.int k2), .val (.int l2), .val (.int k3), .unset, .unset, .unset, .unset, .unset, .unset] [(.int u3)]))
      refine own_st (fun _ k => X0.ldcInt hx hown (mvT hZ (hw _ (List.mem_of_getElem? (i := 0) rfl))) (g := (mkF m 71 #[.val (.int u0), .val (.int u1), .val (.int u2), .val (.int u3), .val (.int u4), .val (.int ((u0 &&& (2147483647 : Int32)) - ((u0 &&& (2147483647 : Int32)) / (6 : Int32)) * (6 : Int32))), .val (.int (1 : Int32)), .val (.int l1), .val (.int k2), .val (.int l2), .val (.int k3), .unset, .unset, .unset, .unset, .unset, .unset] [(.int u3)])) rfl (hb hby at_71) _ k) ?_
      show own_Go _ _ _ _ (s₁.setTop (mkF m 73 #[.val (.int u0), .val (.int u1), .val (.int u2), .val (.int u3), .val (.int u4), .val (.int ((u0 &&& (2147483647 : Int32)) - ((u0 &&& (2147483647 : Int32)) / (6 : Int32)) * (6 : Int32))), .val (.int (1 : Int32)), .val (.int l1), .val (.int k2), .val (.int l2), .val (.int k3), .unset, .unset, .unset, .unset, .unset, .unset] [(.int (2147483647 : Int32)), (.int u3)]))
      refine own_st (fun _ k => XS.iand X0.here hx rfl (hb hby at_73) rfl k) ?_
      show own_Go _ _ _ _ (s₁.setTop (mkF m 74 #[.val (.int u0), .val (.int u1), .val (.int u2), .val (.int u3), .val (.int u4), .val (.int ((u0 &&& (2147483647 : Int32)) - ((u0 &&& (2147483647 : Int32)) / (6 : Int32)) * (6 : Int32))), .val (.int (1 : Int32)), .val (.int l1), .val (.int k2), .val (.int l2), .val (.int k3), .unset, .unset, .unset, .unset, .unset, .unset] [(.int (u3 &&& (2147483647 : Int32)))]))
      refine own_st (fun _ k => XS.iload X0.here hx rfl (hb hby at_74) rfl k) ?_
      show own_Go _ _ _ _ (s₁.setTop (mkF m 76 #[.val (.int u0), .val (.int u1), .val (.int u2), .val (.int u3), .val (.int u4), .val (.int ((u0 &&& (2147483647 : Int32)) - ((u0 &&& (2147483647 : Int32)) / (6 : Int32)) * (6 : Int32))), .val (.int (1 : Int32)), .val (.int l1), .val (.int k2), .val (.int l2), .val (.int k3), .unset, .unset, .unset, .unset, .unset, .unset] [(.int k3), (.int (u3 &&& (2147483647 : Int32)))]))
      refine own_st (fun _ k => XS.iconst X0.here hx rfl (hb hby at_76) k) ?_
      show own_Go _ _ _ _ (s₁.setTop (mkF m 77 #[.val (.int u0), .val (.int u1), .val (.int u2), .val (.int u3), .val (.int u4), .val (.int ((u0 &&& (2147483647 : Int32)) - ((u0 &&& (2147483647 : Int32)) / (6 : Int32)) * (6 : Int32))), .val (.int (1 : Int32)), .val (.int l1), .val (.int k2), .val (.int l2), .val (.int k3), .unset, .unset, .unset, .unset, .unset, .unset] [(.int (1 : Int32)), (.int k3), (.int (u3 &&& (2147483647 : Int32)))]))
      refine own_st (fun _ k => XS.iadd X0.here hx rfl (hb hby at_77) rfl k) ?_
      show own_Go _ _ _ _ (s₁.setTop (mkF m 78 #[.val (.int u0), .val (.int u1), .val (.int u2), .val (.int u3), .val (.int u4), .val (.int ((u0 &&& (2147483647 : Int32)) - ((u0 &&& (2147483647 : Int32)) / (6 : Int32)) * (6 : Int32))), .val (.int (1 : Int32)), .val (.int l1), .val (.int k2), .val (.int l2), .val (.int k3), .unset, .unset, .unset, .unset, .unset, .unset] [(.int (k3 + (1 : Int32))), (.int (u3 &&& (2147483647 : Int32)))]))
      refine own_st (fun _ k => XS.irem X0.here hx rfl (hb hby at_78) rfl (own_nz k3 ⟨hb1.1, by have := hb1.2; have := hk1; simp only [Int32.reduceToInt] at *; omega⟩) k) ?_
      show own_Go _ _ _ _ (s₁.setTop (mkF m 79 #[.val (.int u0), .val (.int u1), .val (.int u2), .val (.int u3), .val (.int u4), .val (.int ((u0 &&& (2147483647 : Int32)) - ((u0 &&& (2147483647 : Int32)) / (6 : Int32)) * (6 : Int32))), .val (.int (1 : Int32)), .val (.int l1), .val (.int k2), .val (.int l2), .val (.int k3), .unset, .unset, .unset, .unset, .unset, .unset] [(.int ((u3 &&& (2147483647 : Int32)) - ((u3 &&& (2147483647 : Int32)) / (k3 + (1 : Int32))) * (k3 + (1 : Int32))))]))
      refine own_st (fun _ k => XS.istore X0.here hx rfl (hb hby at_79) rfl (l' := #[.val (.int u0), .val (.int u1), .val (.int u2), .val (.int u3), .val (.int u4), .val (.int ((u0 &&& (2147483647 : Int32)) - ((u0 &&& (2147483647 : Int32)) / (6 : Int32)) * (6 : Int32))), .val (.int (1 : Int32)), .val (.int l1), .val (.int k2), .val (.int l2), .val (.int k3), .val (.int ((u3 &&& (2147483647 : Int32)) - ((u3 &&& (2147483647 : Int32)) / (k3 + (1 : Int32))) * (k3 + (1 : Int32)))), .unset, .unset, .unset, .unset, .unset]) rfl k) ?_
      show own_Go _ _ _ _ (s₁.setTop (mkF m 81 #[.val (.int u0), .val (.int u1), .val (.int u2), .val (.int u3), .val (.int u4), .val (.int ((u0 &&& (2147483647 : Int32)) - ((u0 &&& (2147483647 : Int32)) / (6 : Int32)) * (6 : Int32))), .val (.int (1 : Int32)), .val (.int l1), .val (.int k2), .val (.int l2), .val (.int k3), .val (.int ((u3 &&& (2147483647 : Int32)) - ((u3 &&& (2147483647 : Int32)) / (k3 + (1 : Int32))) * (k3 + (1 : Int32)))), .unset, .unset, .unset, .unset, .unset] []))
      have hk2 : 0 ≤ (k3).toInt ∧ (k3).toInt ≤ 3 := ⟨hb1.1, by have := hb1.2; have := hk1; simp only [Int32.reduceToInt] at *; omega⟩
      have hl2 : 0 ≤ (((u3 &&& (2147483647 : Int32)) - ((u3 &&& (2147483647 : Int32)) / (k3 + (1 : Int32))) * (k3 + (1 : Int32)))).toInt ∧ (((u3 &&& (2147483647 : Int32)) - ((u3 &&& (2147483647 : Int32)) / (k3 + (1 : Int32))) * (k3 + (1 : Int32)))).toInt ≤ (k3).toInt := own_l u3 k3 (by have := hk2; omega)
      refine own_join (fun q : Int32 × Int32 => s₁.setTop (mkF m 99 #[.val (.int u0), .val (.int u1), .val (.int u2), .val (.int u3), .val (.int u4), .val (.int ((u0 &&& (2147483647 : Int32)) - ((u0 &&& (2147483647 : Int32)) / (6 : Int32)) * (6 : Int32))), .val (.int (1 : Int32)), .val (.int l1), .val (.int k2), .val (.int l2), .val (.int k3), .val (.int q.1), .val (.int q.2), .unset, .unset, .unset, .unset] [])) (fun q => own_J k3 q) ?_ ?_
      · intro q hj40
        obtain ⟨l3, k4⟩ := q
        have hJ2 : own_J k3 (l3, k4) := hj40
        have hb2 : 0 ≤ (k4).toInt ∧ (k4).toInt ≤ (k3).toInt + 1 := hJ2.2.1
        show own_Go _ _ _ _ (s₁.setTop (mkF m 99 #[.val (.int u0), .val (.int u1), .val (.int u2), .val (.int u3), .val (.int u4), .val (.int ((u0 &&& (2147483647 : Int32)) - ((u0 &&& (2147483647 : Int32)) / (6 : Int32)) * (6 : Int32))), .val (.int (1 : Int32)), .val (.int l1), .val (.int k2), .val (.int l2), .val (.int k3), .val (.int l3), .val (.int k4), .unset, .unset, .unset, .unset] []))
        refine own_st (fun _ k => XS.iload X0.here hx rfl (hb hby at_99) rfl k) ?_
        show own_Go _ _ _ _ (s₁.setTop (mkF m 101 #[.val (.int u0), .val (.int u1), .val (.int u2), .val (.int u3), .val (.int u4), .val (.int ((u0 &&& (2147483647 : Int32)) - ((u0 &&& (2147483647 : Int32)) / (6 : Int32)) * (6 : Int32))), .val (.int (1 : Int32)), .val (.int l1), .val (.int k2), .val (.int l2), .val (.int k3), .val (.int l3), .val (.int k4), .unset, .unset, .unset, .unset] [(.int u4)]))
        refine own_st (fun _ k => X0.ldcInt hx hown (mvT hZ (hw _ (List.mem_of_getElem? (i := 0) rfl))) (g := (mkF m 101 #[.val (.int u0), .val (.int u1), .val (.int u2), .val (.int u3), .val (.int u4), .val (.int ((u0 &&& (2147483647 : Int32)) - ((u0 &&& (2147483647 : Int32)) / (6 : Int32)) * (6 : Int32))), .val (.int (1 : Int32)), .val (.int l1), .val (.int k2), .val (.int l2), .val (.int k3), .val (.int l3), .val (.int k4), .unset, .unset, .unset, .unset] [(.int u4)])) rfl (hb hby at_101) _ k) ?_
        show own_Go _ _ _ _ (s₁.setTop (mkF m 103 #[.val (.int u0), .val (.int u1), .val (.int u2), .val (.int u3), .val (.int u4), .val (.int ((u0 &&& (2147483647 : Int32)) - ((u0 &&& (2147483647 : Int32)) / (6 : Int32)) * (6 : Int32))), .val (.int (1 : Int32)), .val (.int l1), .val (.int k2), .val (.int l2), .val (.int k3), .val (.int l3), .val (.int k4), .unset, .unset, .unset, .unset] [(.int (2147483647 : Int32)), (.int u4)]))
        refine own_st (fun _ k => XS.iand X0.here hx rfl (hb hby at_103) rfl k) ?_
        show own_Go _ _ _ _ (s₁.setTop (mkF m 104 #[.val (.int u0), .val (.int u1), .val (.int u2), .val (.int u3), .val (.int u4), .val (.int ((u0 &&& (2147483647 : Int32)) - ((u0 &&& (2147483647 : Int32)) / (6 : Int32)) * (6 : Int32))), .val (.int (1 : Int32)), .val (.int l1), .val (.int k2), .val (.int l2), .val (.int k3), .val (.int l3), .val (.int k4), .unset, .unset, .unset, .unset] [(.int (u4 &&& (2147483647 : Int32)))]))
        refine own_st (fun _ k => XS.iload X0.here hx rfl (hb hby at_104) rfl k) ?_
        show own_Go _ _ _ _ (s₁.setTop (mkF m 106 #[.val (.int u0), .val (.int u1), .val (.int u2), .val (.int u3), .val (.int u4), .val (.int ((u0 &&& (2147483647 : Int32)) - ((u0 &&& (2147483647 : Int32)) / (6 : Int32)) * (6 : Int32))), .val (.int (1 : Int32)), .val (.int l1), .val (.int k2), .val (.int l2), .val (.int k3), .val (.int l3), .val (.int k4), .unset, .unset, .unset, .unset] [(.int k4), (.int (u4 &&& (2147483647 : Int32)))]))
        refine own_st (fun _ k => XS.iconst X0.here hx rfl (hb hby at_106) k) ?_
        show own_Go _ _ _ _ (s₁.setTop (mkF m 107 #[.val (.int u0), .val (.int u1), .val (.int u2), .val (.int u3), .val (.int u4), .val (.int ((u0 &&& (2147483647 : Int32)) - ((u0 &&& (2147483647 : Int32)) / (6 : Int32)) * (6 : Int32))), .val (.int (1 : Int32)), .val (.int l1), .val (.int k2), .val (.int l2), .val (.int k3), .val (.int l3), .val (.int k4), .unset, .unset, .unset, .unset] [(.int (1 : Int32)), (.int k4), (.int (u4 &&& (2147483647 : Int32)))]))
        refine own_st (fun _ k => XS.iadd X0.here hx rfl (hb hby at_107) rfl k) ?_
        show own_Go _ _ _ _ (s₁.setTop (mkF m 108 #[.val (.int u0), .val (.int u1), .val (.int u2), .val (.int u3), .val (.int u4), .val (.int ((u0 &&& (2147483647 : Int32)) - ((u0 &&& (2147483647 : Int32)) / (6 : Int32)) * (6 : Int32))), .val (.int (1 : Int32)), .val (.int l1), .val (.int k2), .val (.int l2), .val (.int k3), .val (.int l3), .val (.int k4), .unset, .unset, .unset, .unset] [(.int (k4 + (1 : Int32))), (.int (u4 &&& (2147483647 : Int32)))]))
        refine own_st (fun _ k => XS.irem X0.here hx rfl (hb hby at_108) rfl (own_nz k4 ⟨hb2.1, by have := hb2.2; have := hk2; simp only [Int32.reduceToInt] at *; omega⟩) k) ?_
        show own_Go _ _ _ _ (s₁.setTop (mkF m 109 #[.val (.int u0), .val (.int u1), .val (.int u2), .val (.int u3), .val (.int u4), .val (.int ((u0 &&& (2147483647 : Int32)) - ((u0 &&& (2147483647 : Int32)) / (6 : Int32)) * (6 : Int32))), .val (.int (1 : Int32)), .val (.int l1), .val (.int k2), .val (.int l2), .val (.int k3), .val (.int l3), .val (.int k4), .unset, .unset, .unset, .unset] [(.int ((u4 &&& (2147483647 : Int32)) - ((u4 &&& (2147483647 : Int32)) / (k4 + (1 : Int32))) * (k4 + (1 : Int32))))]))
        refine own_st (fun _ k => XS.istore X0.here hx rfl (hb hby at_109) rfl (l' := #[.val (.int u0), .val (.int u1), .val (.int u2), .val (.int u3), .val (.int u4), .val (.int ((u0 &&& (2147483647 : Int32)) - ((u0 &&& (2147483647 : Int32)) / (6 : Int32)) * (6 : Int32))), .val (.int (1 : Int32)), .val (.int l1), .val (.int k2), .val (.int l2), .val (.int k3), .val (.int l3), .val (.int k4), .val (.int ((u4 &&& (2147483647 : Int32)) - ((u4 &&& (2147483647 : Int32)) / (k4 + (1 : Int32))) * (k4 + (1 : Int32)))), .unset, .unset, .unset]) rfl k) ?_
        show own_Go _ _ _ _ (s₁.setTop (mkF m 111 #[.val (.int u0), .val (.int u1), .val (.int u2), .val (.int u3), .val (.int u4), .val (.int ((u0 &&& (2147483647 : Int32)) - ((u0 &&& (2147483647 : Int32)) / (6 : Int32)) * (6 : Int32))), .val (.int (1 : Int32)), .val (.int l1), .val (.int k2), .val (.int l2), .val (.int k3), .val (.int l3), .val (.int k4), .val (.int ((u4 &&& (2147483647 : Int32)) - ((u4 &&& (2147483647 : Int32)) / (k4 + (1 : Int32))) * (k4 + (1 : Int32)))), .unset, .unset, .unset] []))
        have hk3 : 0 ≤ (k4).toInt ∧ (k4).toInt ≤ 4 := ⟨hb2.1, by have := hb2.2; have := hk2; simp only [Int32.reduceToInt] at *; omega⟩
        have hl3 : 0 ≤ (((u4 &&& (2147483647 : Int32)) - ((u4 &&& (2147483647 : Int32)) / (k4 + (1 : Int32))) * (k4 + (1 : Int32)))).toInt ∧ (((u4 &&& (2147483647 : Int32)) - ((u4 &&& (2147483647 : Int32)) / (k4 + (1 : Int32))) * (k4 + (1 : Int32)))).toInt ≤ (k4).toInt := own_l u4 k4 (by have := hk3; omega)
        refine own_join (fun q : Int32 × Int32 => s₁.setTop (mkF m 129 #[.val (.int u0), .val (.int u1), .val (.int u2), .val (.int u3), .val (.int u4), .val (.int ((u0 &&& (2147483647 : Int32)) - ((u0 &&& (2147483647 : Int32)) / (6 : Int32)) * (6 : Int32))), .val (.int (1 : Int32)), .val (.int l1), .val (.int k2), .val (.int l2), .val (.int k3), .val (.int l3), .val (.int k4), .val (.int q.1), .val (.int q.2), .unset, .unset] [])) (fun q => own_J k4 q) ?_ ?_
        · intro q hj41
          obtain ⟨l4, k5⟩ := q
          have hJ3 : own_J k4 (l4, k5) := hj41
          have hb3 : 0 ≤ (k5).toInt ∧ (k5).toInt ≤ (k4).toInt + 1 := hJ3.2.1
          show own_Go _ _ _ _ (s₁.setTop (mkF m 129 #[.val (.int u0), .val (.int u1), .val (.int u2), .val (.int u3), .val (.int u4), .val (.int ((u0 &&& (2147483647 : Int32)) - ((u0 &&& (2147483647 : Int32)) / (6 : Int32)) * (6 : Int32))), .val (.int (1 : Int32)), .val (.int l1), .val (.int k2), .val (.int l2), .val (.int k3), .val (.int l3), .val (.int k4), .val (.int l4), .val (.int k5), .unset, .unset] []))
          rcases own_m6 u0 with hs42 | hs42 | hs42 | hs42 | hs42 | hs42
          · skip
            rw [hs42]
            show own_Go _ _ _ _ (s₁.setTop (mkF m 129 #[.val (.int u0), .val (.int u1), .val (.int u2), .val (.int u3), .val (.int u4), .val (.int (0 : Int32)), .val (.int (1 : Int32)), .val (.int l1), .val (.int k2), .val (.int l2), .val (.int k3), .val (.int l3), .val (.int k4), .val (.int l4), .val (.int k5), .unset, .unset] []))
            refine own_st (fun _ k => XS.iload X0.here hx rfl (hb hby at_129) rfl k) ?_
            show own_Go _ _ _ _ (s₁.setTop (mkF m 131 #[.val (.int u0), .val (.int u1), .val (.int u2), .val (.int u3), .val (.int u4), .val (.int (0 : Int32)), .val (.int (1 : Int32)), .val (.int l1), .val (.int k2), .val (.int l2), .val (.int k3), .val (.int l3), .val (.int k4), .val (.int l4), .val (.int k5), .unset, .unset] [(.int (0 : Int32))]))
            refine own_st (fun _ k => XS.ifNo X0.here hx rfl (hb hby at_131) rfl ((if0 _ _).trans (teq (by decide : ((0 : Int32) = (0 : Int32)))).2) k) ?_
            show own_Go _ _ _ _ (s₁.setTop (mkF m 134 #[.val (.int u0), .val (.int u1), .val (.int u2), .val (.int u3), .val (.int u4), .val (.int (0 : Int32)), .val (.int (1 : Int32)), .val (.int l1), .val (.int k2), .val (.int l2), .val (.int k3), .val (.int l3), .val (.int k4), .val (.int l4), .val (.int k5), .unset, .unset] []))
            refine own_st (fun _ k => XS.iconst X0.here hx rfl (hb hby at_134) k) ?_
            show own_Go _ _ _ _ (s₁.setTop (mkF m 135 #[.val (.int u0), .val (.int u1), .val (.int u2), .val (.int u3), .val (.int u4), .val (.int (0 : Int32)), .val (.int (1 : Int32)), .val (.int l1), .val (.int k2), .val (.int l2), .val (.int k3), .val (.int l3), .val (.int k4), .val (.int l4), .val (.int k5), .unset, .unset] [(.int (0 : Int32))]))
            obtain ⟨T43, h43, k43, X43, e43, E43, A43, st43⟩ := newP X0 hx hZ (hw _ (List.mem_of_getElem? (i := 1) rfl)) e0 (g := (mkF m 135 #[.val (.int u0), .val (.int u1), .val (.int u2), .val (.int u3), .val (.int u4), .val (.int (0 : Int32)), .val (.int (1 : Int32)), .val (.int l1), .val (.int k2), .val (.int l2), .val (.int k3), .val (.int l3), .val (.int k4), .val (.int l4), .val (.int k5), .unset, .unset] [(.int (0 : Int32))])) rfl (hb hby at_135) rfl (by decide : ¬ ((0 : Int32) < (0 : Int32))) (cap := 0) (by decide : ((0 : Int32)).toNatClampNeg ≤ 0) (by decide) (by decide) (by decide)
            obtain ⟨b43, g43⟩ : ∃ z, z = h0.size := ⟨_, rfl⟩
            rw [← g43] at A43 st43
            refine own_st st43 ?_
            have Z43 : n0 ≤ h43.size := Nat.le_trans Z0 E43.1
            have gnb43 : n0 ≤ b43 := Nat.le_trans Z0 (Nat.le_of_eq g43.symm)
            have gkb43 : h0.size ≤ b43 := Nat.le_trans K0.1 (Nat.le_of_eq g43.symm)
            have K43 : Keep h0 h43 [] := K0.ext E43
            have V43 : Arv Z h43 b43 k43 .int (0 : Int32) [] (.int (0 : Int32)) := Arv.new A43 (by decide : ¬ ((0 : Int32) < (0 : Int32)))
            show own_Go _ _ _ _ (T43.setTop (mkF m 137 #[.val (.int u0), .val (.int u1), .val (.int u2), .val (.int u3), .val (.int u4), .val (.int (0 : Int32)), .val (.int (1 : Int32)), .val (.int l1), .val (.int k2), .val (.int l2), .val (.int k3), .val (.int l3), .val (.int k4), .val (.int l4), .val (.int k5), .unset, .unset] [(.ref b43)]))
            refine own_st (fun _ k => XS.astore X43.here hx rfl (hb hby at_137) rfl rfl (l' := #[.val (.int u0), .val (.int u1), .val (.int u2), .val (.int u3), .val (.int u4), .val (.int (0 : Int32)), .val (.int (1 : Int32)), .val (.int l1), .val (.int k2), .val (.int l2), .val (.int k3), .val (.int l3), .val (.int k4), .val (.int l4), .val (.int k5), .val (.ref b43), .unset]) rfl k) ?_
            show own_Go _ _ _ _ (T43.setTop (mkF m 139 #[.val (.int u0), .val (.int u1), .val (.int u2), .val (.int u3), .val (.int u4), .val (.int (0 : Int32)), .val (.int (1 : Int32)), .val (.int l1), .val (.int k2), .val (.int l2), .val (.int k3), .val (.int l3), .val (.int k4), .val (.int l4), .val (.int k5), .val (.ref b43), .unset] []))
            refine own_st (fun _ k => XS.iconst X43.here hx rfl (hb hby at_139) k) ?_
            show own_Go _ _ _ _ (T43.setTop (mkF m 140 #[.val (.int u0), .val (.int u1), .val (.int u2), .val (.int u3), .val (.int u4), .val (.int (0 : Int32)), .val (.int (1 : Int32)), .val (.int l1), .val (.int k2), .val (.int l2), .val (.int k3), .val (.int l3), .val (.int k4), .val (.int l4), .val (.int k5), .val (.ref b43), .unset] [(.int (0 : Int32))]))
            refine own_st (fun _ k => XS.istore X43.here hx rfl (hb hby at_140) rfl (l' := #[.val (.int u0), .val (.int u1), .val (.int u2), .val (.int u3), .val (.int u4), .val (.int (0 : Int32)), .val (.int (1 : Int32)), .val (.int l1), .val (.int k2), .val (.int l2), .val (.int k3), .val (.int l3), .val (.int k4), .val (.int l4), .val (.int k5), .val (.ref b43), .val (.int (0 : Int32))]) rfl k) ?_
            show own_Go _ _ _ _ (T43.setTop (mkF m 142 #[.val (.int u0), .val (.int u1), .val (.int u2), .val (.int u3), .val (.int u4), .val (.int (0 : Int32)), .val (.int (1 : Int32)), .val (.int l1), .val (.int k2), .val (.int l2), .val (.int k3), .val (.int l3), .val (.int k4), .val (.int l4), .val (.int k5), .val (.ref b43), .val (.int (0 : Int32))] []))
            refine own_st (fun _ k => XS.goto X43.here hx rfl (pc0 := 142) (pc' := 296) rfl (hb hby at_142) (by decide) (by decide) k) ?_
            show own_Go _ _ _ _ (T43.setTop (mkF m 296 #[.val (.int u0), .val (.int u1), .val (.int u2), .val (.int u3), .val (.int u4), .val (.int (0 : Int32)), .val (.int (1 : Int32)), .val (.int l1), .val (.int k2), .val (.int l2), .val (.int k3), .val (.int l3), .val (.int k4), .val (.int l4), .val (.int k5), .val (.ref b43), .val (.int (0 : Int32))] []))
            refine own_st (fun _ k => XS.aload X43.here hx rfl (hb hby at_296) rfl rfl k) ?_
            show own_Go _ _ _ _ (T43.setTop (mkF m 298 #[.val (.int u0), .val (.int u1), .val (.int u2), .val (.int u3), .val (.int u4), .val (.int (0 : Int32)), .val (.int (1 : Int32)), .val (.int l1), .val (.int k2), .val (.int l2), .val (.int k3), .val (.int l3), .val (.int k4), .val (.int l4), .val (.int k5), .val (.ref b43), .val (.int (0 : Int32))] [(.ref b43)]))
            obtain ⟨_, _, ⟨T44, L44, k44, n44⟩, -, X44, ⟨Lc44, hQ44, l44, y44, z44⟩, st44⟩ := Jvm.LawKit.callS X43 hx (y := (⟨"com/example/barred_owl/barredowl/Embedding", "componentCount", "([I)I"⟩ : MethodName)) hown (mvT hZ (hw _ (List.mem_of_getElem? (i := 2) rfl))) (mvT hZ (hw _ (List.mem_of_getElem? (i := 3) rfl))) (mvT hZ (hw _ (List.mem_of_getElem? (i := 4) rfl))) (mvT hZ (hw _ (List.mem_of_getElem? (i := 5) rfl))) (by decide) (backOf (W := 0) (rm1_0 l Z a0 hw [] b43 k43  h43 n0 Z43 V43) hZ (hw _ (List.mem_of_getElem? (i := 5) rfl)) (hw _ (List.mem_of_getElem? (i := 4) rfl)) (by decide) (by decide)) (g := (mkF m 298 #[.val (.int u0), .val (.int u1), .val (.int u2), .val (.int u3), .val (.int u4), .val (.int (0 : Int32)), .val (.int (1 : Int32)), .val (.int l1), .val (.int k2), .val (.int l2), .val (.int k3), .val (.int l3), .val (.int k4), .val (.int l4), .val (.int k5), .val (.ref b43), .val (.int (0 : Int32))] [(.ref b43)])) rfl (by rw [hml]; rfl) (argsL := [(.ref b43)]) (rest := []) (lenOf own_pd1 rfl) rfl (by show 2 * 0 + _ ≤ _; exact Nat.le_of_eq rfl) (hb hby at_298) (fun _ _ => ⟨rfl, e43, (by decide : 1 + 0 ≤ _), (by decide : 0 + 0 ≤ _)⟩)
            dsimp only [Pt.U, Pt.locs, Pt.cells, Pt.slots] at X44 l44 y44 z44 st44 hQ44
            subst l44 y44 z44
            obtain ⟨rfl, Nq44, eq44⟩ := hQ44
            have N44 := Fr.app N0 Nq44
            refine own_st st44 ?_
            show own_Go _ _ _ _ (T44.setTop (mkF m 301 #[.val (.int u0), .val (.int u1), .val (.int u2), .val (.int u3), .val (.int u4), .val (.int (0 : Int32)), .val (.int (1 : Int32)), .val (.int l1), .val (.int k2), .val (.int l2), .val (.int k3), .val (.int l3), .val (.int k4), .val (.int l4), .val (.int k5), .val (.ref b43), .val (.int (0 : Int32))] [(.int own_cc0)]))
            refine own_st (fun _ k => XS.iload X44.here hx rfl (hb hby at_301) rfl k) ?_
            show own_Go _ _ _ _ (T44.setTop (mkF m 303 #[.val (.int u0), .val (.int u1), .val (.int u2), .val (.int u3), .val (.int u4), .val (.int (0 : Int32)), .val (.int (1 : Int32)), .val (.int l1), .val (.int k2), .val (.int l2), .val (.int k3), .val (.int l3), .val (.int k4), .val (.int l4), .val (.int k5), .val (.ref b43), .val (.int (0 : Int32))] [(.int (0 : Int32)), (.int own_cc0)]))
            refine own_st (fun _ k => XS.icmpNo X44.here hx rfl (hb hby at_303) rfl (teq (rfl)).2 k) ?_
            show own_Go _ _ _ _ (T44.setTop (mkF m 306 #[.val (.int u0), .val (.int u1), .val (.int u2), .val (.int u3), .val (.int u4), .val (.int (0 : Int32)), .val (.int (1 : Int32)), .val (.int l1), .val (.int k2), .val (.int l2), .val (.int k3), .val (.int l3), .val (.int k4), .val (.int l4), .val (.int k5), .val (.ref b43), .val (.int (0 : Int32))] []))
            refine own_st (fun _ k => XS.iconst X44.here hx rfl (hb hby at_306) k) ?_
            show own_Go _ _ _ _ (T44.setTop (mkF m 307 #[.val (.int u0), .val (.int u1), .val (.int u2), .val (.int u3), .val (.int u4), .val (.int (0 : Int32)), .val (.int (1 : Int32)), .val (.int l1), .val (.int k2), .val (.int l2), .val (.int k3), .val (.int l3), .val (.int k4), .val (.int l4), .val (.int k5), .val (.ref b43), .val (.int (0 : Int32))] [(.int (1 : Int32))]))
            refine own_st (fun _ k => XS.goto X44.here hx rfl (pc0 := 307) (pc' := 311) rfl (hb hby at_307) (by decide) (by decide) k) ?_
            show own_Go _ _ _ _ (T44.setTop (mkF m 311 #[.val (.int u0), .val (.int u1), .val (.int u2), .val (.int u3), .val (.int u4), .val (.int (0 : Int32)), .val (.int (1 : Int32)), .val (.int l1), .val (.int k2), .val (.int l2), .val (.int k3), .val (.int l3), .val (.int k4), .val (.int l4), .val (.int k5), .val (.ref b43), .val (.int (0 : Int32))] [(.int (1 : Int32))]))
            obtain ⟨fs, hr, hrun, hended, hW, hsame⟩ := X44.leave (v := some (.int (1 : Int32))) (fun h => by rw [Bd.returns] at h; cases h)
            refine own_out (retN X44 hx (t := .boolean) Bd.returns (by simp) (hb hby at_311) hr) ⟨hrun, hended, _, _, rfl, ?_, ⟨_, rfl⟩, hW, hsame.mono (by decide) (by decide)⟩
            show Q0 Z u0 u1 u2 u3 u4 h0 n0 _ T44.heap _
            exact ⟨rfl, N44⟩
          · skip
            rw [hs42]
            show own_Go _ _ _ _ (s₁.setTop (mkF m 129 #[.val (.int u0), .val (.int u1), .val (.int u2), .val (.int u3), .val (.int u4), .val (.int (1 : Int32)), .val (.int (1 : Int32)), .val (.int l1), .val (.int k2), .val (.int l2), .val (.int k3), .val (.int l3), .val (.int k4), .val (.int l4), .val (.int k5), .unset, .unset] []))
            refine own_st (fun _ k => XS.iload X0.here hx rfl (hb hby at_129) rfl k) ?_
            show own_Go _ _ _ _ (s₁.setTop (mkF m 131 #[.val (.int u0), .val (.int u1), .val (.int u2), .val (.int u3), .val (.int u4), .val (.int (1 : Int32)), .val (.int (1 : Int32)), .val (.int l1), .val (.int k2), .val (.int l2), .val (.int k3), .val (.int l3), .val (.int k4), .val (.int l4), .val (.int k5), .unset, .unset] [(.int (1 : Int32))]))
            refine own_st (fun _ k => XS.ifYes X0.here hx rfl (pc0 := 131) (pc' := 145) rfl (hb hby at_131) rfl ((if0 _ _).trans (feq (by decide : ¬ ((1 : Int32) = (0 : Int32)))).2) (by decide) (by decide) k) ?_
            show own_Go _ _ _ _ (s₁.setTop (mkF m 145 #[.val (.int u0), .val (.int u1), .val (.int u2), .val (.int u3), .val (.int u4), .val (.int (1 : Int32)), .val (.int (1 : Int32)), .val (.int l1), .val (.int k2), .val (.int l2), .val (.int k3), .val (.int l3), .val (.int k4), .val (.int l4), .val (.int k5), .unset, .unset] []))
            refine own_st (fun _ k => XS.iload X0.here hx rfl (hb hby at_145) rfl k) ?_
            show own_Go _ _ _ _ (s₁.setTop (mkF m 147 #[.val (.int u0), .val (.int u1), .val (.int u2), .val (.int u3), .val (.int u4), .val (.int (1 : Int32)), .val (.int (1 : Int32)), .val (.int l1), .val (.int k2), .val (.int l2), .val (.int k3), .val (.int l3), .val (.int k4), .val (.int l4), .val (.int k5), .unset, .unset] [(.int (1 : Int32))]))
            refine own_st (fun _ k => XS.iconst X0.here hx rfl (hb hby at_147) k) ?_
            show own_Go _ _ _ _ (s₁.setTop (mkF m 148 #[.val (.int u0), .val (.int u1), .val (.int u2), .val (.int u3), .val (.int u4), .val (.int (1 : Int32)), .val (.int (1 : Int32)), .val (.int l1), .val (.int k2), .val (.int l2), .val (.int k3), .val (.int l3), .val (.int k4), .val (.int l4), .val (.int k5), .unset, .unset] [(.int (1 : Int32)), (.int (1 : Int32))]))
            refine own_st (fun _ k => XS.icmpNo X0.here hx rfl (hb hby at_148) rfl (teq (by decide : ((1 : Int32) = (1 : Int32)))).2 k) ?_
            show own_Go _ _ _ _ (s₁.setTop (mkF m 151 #[.val (.int u0), .val (.int u1), .val (.int u2), .val (.int u3), .val (.int u4), .val (.int (1 : Int32)), .val (.int (1 : Int32)), .val (.int l1), .val (.int k2), .val (.int l2), .val (.int k3), .val (.int l3), .val (.int k4), .val (.int l4), .val (.int k5), .unset, .unset] []))
            refine own_st (fun _ k => XS.iconst X0.here hx rfl (hb hby at_151) k) ?_
            show own_Go _ _ _ _ (s₁.setTop (mkF m 152 #[.val (.int u0), .val (.int u1), .val (.int u2), .val (.int u3), .val (.int u4), .val (.int (1 : Int32)), .val (.int (1 : Int32)), .val (.int l1), .val (.int k2), .val (.int l2), .val (.int k3), .val (.int l3), .val (.int k4), .val (.int l4), .val (.int k5), .unset, .unset] [(.int (1 : Int32))]))
            obtain ⟨T45, h45, k45, X45, e45, E45, A45, st45⟩ := newP X0 hx hZ (hw _ (List.mem_of_getElem? (i := 1) rfl)) e0 (g := (mkF m 152 #[.val (.int u0), .val (.int u1), .val (.int u2), .val (.int u3), .val (.int u4), .val (.int (1 : Int32)), .val (.int (1 : Int32)), .val (.int l1), .val (.int k2), .val (.int l2), .val (.int k3), .val (.int l3), .val (.int k4), .val (.int l4), .val (.int k5), .unset, .unset] [(.int (1 : Int32))])) rfl (hb hby at_152) rfl (by decide : ¬ ((1 : Int32) < (0 : Int32))) (cap := 1) (by decide : ((1 : Int32)).toNatClampNeg ≤ 1) (by decide) (by decide) (by decide)
            obtain ⟨b45, g45⟩ : ∃ z, z = h0.size := ⟨_, rfl⟩
            rw [← g45] at A45 st45
            refine own_st st45 ?_
            have Z45 : n0 ≤ h45.size := Nat.le_trans Z0 E45.1
            have gnb45 : n0 ≤ b45 := Nat.le_trans Z0 (Nat.le_of_eq g45.symm)
            have gkb45 : h0.size ≤ b45 := Nat.le_trans K0.1 (Nat.le_of_eq g45.symm)
            have K45 : Keep h0 h45 [] := K0.ext E45
            have V45 : Arv Z h45 b45 k45 .int (1 : Int32) [(.int (0 : Int32))] (.int (0 : Int32)) := (Arv.new A45 (by decide : ¬ ((1 : Int32) < (0 : Int32)))).pad (pad_rep [] (.int (0 : Int32)) 1)
            show own_Go _ _ _ _ (T45.setTop (mkF m 154 #[.val (.int u0), .val (.int u1), .val (.int u2), .val (.int u3), .val (.int u4), .val (.int (1 : Int32)), .val (.int (1 : Int32)), .val (.int l1), .val (.int k2), .val (.int l2), .val (.int k3), .val (.int l3), .val (.int k4), .val (.int l4), .val (.int k5), .unset, .unset] [(.ref b45)]))
            refine own_st (fun _ k => XS.dup X45.here hx rfl (hb hby at_154) rfl rfl k) ?_
            show own_Go _ _ _ _ (T45.setTop (mkF m 155 #[.val (.int u0), .val (.int u1), .val (.int u2), .val (.int u3), .val (.int u4), .val (.int (1 : Int32)), .val (.int (1 : Int32)), .val (.int l1), .val (.int k2), .val (.int l2), .val (.int k3), .val (.int l3), .val (.int k4), .val (.int l4), .val (.int k5), .unset, .unset] [(.ref b45), (.ref b45)]))
            refine own_st (fun _ k => XS.iconst X45.here hx rfl (hb hby at_155) k) ?_
            show own_Go _ _ _ _ (T45.setTop (mkF m 156 #[.val (.int u0), .val (.int u1), .val (.int u2), .val (.int u3), .val (.int u4), .val (.int (1 : Int32)), .val (.int (1 : Int32)), .val (.int l1), .val (.int k2), .val (.int l2), .val (.int k3), .val (.int l3), .val (.int k4), .val (.int l4), .val (.int k5), .unset, .unset] [(.int (0 : Int32)), (.ref b45), (.ref b45)]))
            refine own_st (fun _ k => XS.iconst X45.here hx rfl (hb hby at_156) k) ?_
            show own_Go _ _ _ _ (T45.setTop (mkF m 157 #[.val (.int u0), .val (.int u1), .val (.int u2), .val (.int u3), .val (.int u4), .val (.int (1 : Int32)), .val (.int (1 : Int32)), .val (.int l1), .val (.int k2), .val (.int l2), .val (.int k3), .val (.int l3), .val (.int k4), .val (.int l4), .val (.int k5), .unset, .unset] [(.int (0 : Int32)), (.int (0 : Int32)), (.ref b45), (.ref b45)]))
            obtain ⟨cl46, Ar46, Kd46, Sz46, Nn46, Hs46, Gs46⟩ := id V45
            obtain ⟨T46, h46, X46, e46, W46, st46⟩ := stI X45 hx hZ e45 Ar46 (j := (0 : Int32)) (inb_of Sz46 ⟨(by decide : ¬ ((0 : Int32) < (0 : Int32))), (by decide : (0 : Int32) < (1 : Int32))⟩) (g := (mkF m 157 #[.val (.int u0), .val (.int u1), .val (.int u2), .val (.int u3), .val (.int u4), .val (.int (1 : Int32)), .val (.int (1 : Int32)), .val (.int l1), .val (.int k2), .val (.int l2), .val (.int k3), .val (.int l3), .val (.int k4), .val (.int l4), .val (.int k5), .unset, .unset] [(.int (0 : Int32)), (.int (0 : Int32)), (.ref b45), (.ref b45)])) rfl rfl (hb hby at_157)
            refine own_st st46 ?_
            have V46 := Arv.set Ar46 Kd46 Sz46 Nn46 Hs46 Gs46 rfl W46 0 rfl (Nat.le_of_ble_eq_true rfl)
            have V46' : Arv Z h46 b45 k45 .int (1 : Int32) [(.int (0 : Int32))] (.int (0 : Int32)) := V46
            have Z46 : n0 ≤ h46.size := Nat.le_trans Z45 (Nat.le_of_eq W46.size.symm)
            have N46 := Fr.snoc X46 N0 gnb45
            have K46 : Keep h0 h46 [] := K45.wr W46 (Or.inr gkb45)
            show own_Go _ _ _ _ (T46.setTop (mkF m 158 #[.val (.int u0), .val (.int u1), .val (.int u2), .val (.int u3), .val (.int u4), .val (.int (1 : Int32)), .val (.int (1 : Int32)), .val (.int l1), .val (.int k2), .val (.int l2), .val (.int k3), .val (.int l3), .val (.int k4), .val (.int l4), .val (.int k5), .unset, .unset] [(.ref b45)]))
            refine own_st (fun _ k => XS.astore X46.here hx rfl (hb hby at_158) rfl rfl (l' := #[.val (.int u0), .val (.int u1), .val (.int u2), .val (.int u3), .val (.int u4), .val (.int (1 : Int32)), .val (.int (1 : Int32)), .val (.int l1), .val (.int k2), .val (.int l2), .val (.int k3), .val (.int l3), .val (.int k4), .val (.int l4), .val (.int k5), .val (.ref b45), .unset]) rfl k) ?_
            show own_Go _ _ _ _ (T46.setTop (mkF m 160 #[.val (.int u0), .val (.int u1), .val (.int u2), .val (.int u3), .val (.int u4), .val (.int (1 : Int32)), .val (.int (1 : Int32)), .val (.int l1), .val (.int k2), .val (.int l2), .val (.int k3), .val (.int l3), .val (.int k4), .val (.int l4), .val (.int k5), .val (.ref b45), .unset] []))
            refine own_st (fun _ k => XS.iload X46.here hx rfl (hb hby at_160) rfl k) ?_
            show own_Go _ _ _ _ (T46.setTop (mkF m 162 #[.val (.int u0), .val (.int u1), .val (.int u2), .val (.int u3), .val (.int u4), .val (.int (1 : Int32)), .val (.int (1 : Int32)), .val (.int l1), .val (.int k2), .val (.int l2), .val (.int k3), .val (.int l3), .val (.int k4), .val (.int l4), .val (.int k5), .val (.ref b45), .unset] [(.int (1 : Int32))]))
            refine own_st (fun _ k => XS.istore X46.here hx rfl (hb hby at_162) rfl (l' := #[.val (.int u0), .val (.int u1), .val (.int u2), .val (.int u3), .val (.int u4), .val (.int (1 : Int32)), .val (.int (1 : Int32)), .val (.int l1), .val (.int k2), .val (.int l2), .val (.int k3), .val (.int l3), .val (.int k4), .val (.int l4), .val (.int k5), .val (.ref b45), .val (.int (1 : Int32))]) rfl k) ?_
            show own_Go _ _ _ _ (T46.setTop (mkF m 164 #[.val (.int u0), .val (.int u1), .val (.int u2), .val (.int u3), .val (.int u4), .val (.int (1 : Int32)), .val (.int (1 : Int32)), .val (.int l1), .val (.int k2), .val (.int l2), .val (.int k3), .val (.int l3), .val (.int k4), .val (.int l4), .val (.int k5), .val (.ref b45), .val (.int (1 : Int32))] []))
            refine own_st (fun _ k => XS.goto X46.here hx rfl (pc0 := 164) (pc' := 296) rfl (hb hby at_164) (by decide) (by decide) k) ?_
            show own_Go _ _ _ _ (T46.setTop (mkF m 296 #[.val (.int u0), .val (.int u1), .val (.int u2), .val (.int u3), .val (.int u4), .val (.int (1 : Int32)), .val (.int (1 : Int32)), .val (.int l1), .val (.int k2), .val (.int l2), .val (.int k3), .val (.int l3), .val (.int k4), .val (.int l4), .val (.int k5), .val (.ref b45), .val (.int (1 : Int32))] []))
            refine own_st (fun _ k => XS.aload X46.here hx rfl (hb hby at_296) rfl rfl k) ?_
            show own_Go _ _ _ _ (T46.setTop (mkF m 298 #[.val (.int u0), .val (.int u1), .val (.int u2), .val (.int u3), .val (.int u4), .val (.int (1 : Int32)), .val (.int (1 : Int32)), .val (.int l1), .val (.int k2), .val (.int l2), .val (.int k3), .val (.int l3), .val (.int k4), .val (.int l4), .val (.int k5), .val (.ref b45), .val (.int (1 : Int32))] [(.ref b45)]))
            obtain ⟨_, _, ⟨T47, L47, k47, n47⟩, -, X47, ⟨Lc47, hQ47, l47, y47, z47⟩, st47⟩ := Jvm.LawKit.callS X46 hx (y := (⟨"com/example/barred_owl/barredowl/Embedding", "componentCount", "([I)I"⟩ : MethodName)) hown (mvT hZ (hw _ (List.mem_of_getElem? (i := 2) rfl))) (mvT hZ (hw _ (List.mem_of_getElem? (i := 3) rfl))) (mvT hZ (hw _ (List.mem_of_getElem? (i := 4) rfl))) (mvT hZ (hw _ (List.mem_of_getElem? (i := 5) rfl))) (by decide) (backOf (W := 0) (rm1_1 l Z a0 hw [] b45 k45 (0 : Int32) h46 n0 Z46 V46') hZ (hw _ (List.mem_of_getElem? (i := 5) rfl)) (hw _ (List.mem_of_getElem? (i := 4) rfl)) (by decide) (by decide)) (g := (mkF m 298 #[.val (.int u0), .val (.int u1), .val (.int u2), .val (.int u3), .val (.int u4), .val (.int (1 : Int32)), .val (.int (1 : Int32)), .val (.int l1), .val (.int k2), .val (.int l2), .val (.int k3), .val (.int l3), .val (.int k4), .val (.int l4), .val (.int k5), .val (.ref b45), .val (.int (1 : Int32))] [(.ref b45)])) rfl (by rw [hml]; rfl) (argsL := [(.ref b45)]) (rest := []) (lenOf own_pd1 rfl) rfl (by show 2 * 0 + _ ≤ _; exact Nat.le_of_eq rfl) (hb hby at_298) (fun _ _ => ⟨rfl, e46, (by decide : 1 + 0 ≤ _), (by decide : 1 + 0 ≤ _)⟩)
            dsimp only [Pt.U, Pt.locs, Pt.cells, Pt.slots] at X47 l47 y47 z47 st47 hQ47
            subst l47 y47 z47
            obtain ⟨rfl, Nq47, eq47⟩ := hQ47
            have N47 := Fr.app N46 Nq47
            refine own_st st47 ?_
            show own_Go _ _ _ _ (T47.setTop (mkF m 301 #[.val (.int u0), .val (.int u1), .val (.int u2), .val (.int u3), .val (.int u4), .val (.int (1 : Int32)), .val (.int (1 : Int32)), .val (.int l1), .val (.int k2), .val (.int l2), .val (.int k3), .val (.int l3), .val (.int k4), .val (.int l4), .val (.int k5), .val (.ref b45), .val (.int (1 : Int32))] [(.int (own_cc1 (0 : Int32)))]))
            refine own_st (fun _ k => XS.iload X47.here hx rfl (hb hby at_301) rfl k) ?_
            show own_Go _ _ _ _ (T47.setTop (mkF m 303 #[.val (.int u0), .val (.int u1), .val (.int u2), .val (.int u3), .val (.int u4), .val (.int (1 : Int32)), .val (.int (1 : Int32)), .val (.int l1), .val (.int k2), .val (.int l2), .val (.int k3), .val (.int l3), .val (.int k4), .val (.int l4), .val (.int k5), .val (.ref b45), .val (.int (1 : Int32))] [(.int (1 : Int32)), (.int (own_cc1 (0 : Int32)))]))
            refine own_st (fun _ k => XS.icmpNo X47.here hx rfl (hb hby at_303) rfl (teq (by
                unfold own_cc1
                have z0 := hJ0; have z1 := hJ1; have z2 := hJ2; have z3 := hJ3
                unfold own_J at z0 z1 z2 z3
                dsimp only at z0 z1 z2 z3
                simp only [Int32.reduceToInt] at z0 z1 z2 z3
                have y0 : ((0 : Int32) + (1 : Int32)).toInt = 1 := by decide
                have y1 := own_up l1 (by omega); have y2 := own_up l2 (by omega); have y3 := own_up l3 (by omega); have y4 := own_up l4 (by omega)
                simp only [← Int32.toInt_inj, own_mxi, Int32.reduceToInt, y0, y1, y2, y3, y4]
                (repeat' split) <;> omega)).2 k) ?_
            show own_Go _ _ _ _ (T47.setTop (mkF m 306 #[.val (.int u0), .val (.int u1), .val (.int u2), .val (.int u3), .val (.int u4), .val (.int (1 : Int32)), .val (.int (1 : Int32)), .val (.int l1), .val (.int k2), .val (.int l2), .val (.int k3), .val (.int l3), .val (.int k4), .val (.int l4), .val (.int k5), .val (.ref b45), .val (.int (1 : Int32))] []))
            refine own_st (fun _ k => XS.iconst X47.here hx rfl (hb hby at_306) k) ?_
            show own_Go _ _ _ _ (T47.setTop (mkF m 307 #[.val (.int u0), .val (.int u1), .val (.int u2), .val (.int u3), .val (.int u4), .val (.int (1 : Int32)), .val (.int (1 : Int32)), .val (.int l1), .val (.int k2), .val (.int l2), .val (.int k3), .val (.int l3), .val (.int k4), .val (.int l4), .val (.int k5), .val (.ref b45), .val (.int (1 : Int32))] [(.int (1 : Int32))]))
            refine own_st (fun _ k => XS.goto X47.here hx rfl (pc0 := 307) (pc' := 311) rfl (hb hby at_307) (by decide) (by decide) k) ?_
            show own_Go _ _ _ _ (T47.setTop (mkF m 311 #[.val (.int u0), .val (.int u1), .val (.int u2), .val (.int u3), .val (.int u4), .val (.int (1 : Int32)), .val (.int (1 : Int32)), .val (.int l1), .val (.int k2), .val (.int l2), .val (.int k3), .val (.int l3), .val (.int k4), .val (.int l4), .val (.int k5), .val (.ref b45), .val (.int (1 : Int32))] [(.int (1 : Int32))]))
            obtain ⟨fs, hr, hrun, hended, hW, hsame⟩ := X47.leave (v := some (.int (1 : Int32))) (fun h => by rw [Bd.returns] at h; cases h)
            refine own_out (retN X47 hx (t := .boolean) Bd.returns (by simp) (hb hby at_311) hr) ⟨hrun, hended, _, _, rfl, ?_, ⟨_, rfl⟩, hW, hsame.mono (by decide) (by decide)⟩
            show Q0 Z u0 u1 u2 u3 u4 h0 n0 _ T47.heap _
            exact ⟨rfl, N47⟩
          · skip
            rw [hs42]
            show own_Go _ _ _ _ (s₁.setTop (mkF m 129 #[.val (.int u0), .val (.int u1), .val (.int u2), .val (.int u3), .val (.int u4), .val (.int (2 : Int32)), .val (.int (1 : Int32)), .val (.int l1), .val (.int k2), .val (.int l2), .val (.int k3), .val (.int l3), .val (.int k4), .val (.int l4), .val (.int k5), .unset, .unset] []))
            refine own_st (fun _ k => XS.iload X0.here hx rfl (hb hby at_129) rfl k) ?_
            show own_Go _ _ _ _ (s₁.setTop (mkF m 131 #[.val (.int u0), .val (.int u1), .val (.int u2), .val (.int u3), .val (.int u4), .val (.int (2 : Int32)), .val (.int (1 : Int32)), .val (.int l1), .val (.int k2), .val (.int l2), .val (.int k3), .val (.int l3), .val (.int k4), .val (.int l4), .val (.int k5), .unset, .unset] [(.int (2 : Int32))]))
            refine own_st (fun _ k => XS.ifYes X0.here hx rfl (pc0 := 131) (pc' := 145) rfl (hb hby at_131) rfl ((if0 _ _).trans (feq (by decide : ¬ ((2 : Int32) = (0 : Int32)))).2) (by decide) (by decide) k) ?_
            show own_Go _ _ _ _ (s₁.setTop (mkF m 145 #[.val (.int u0), .val (.int u1), .val (.int u2), .val (.int u3), .val (.int u4), .val (.int (2 : Int32)), .val (.int (1 : Int32)), .val (.int l1), .val (.int k2), .val (.int l2), .val (.int k3), .val (.int l3), .val (.int k4), .val (.int l4), .val (.int k5), .unset, .unset] []))
            refine own_st (fun _ k => XS.iload X0.here hx rfl (hb hby at_145) rfl k) ?_
            show own_Go _ _ _ _ (s₁.setTop (mkF m 147 #[.val (.int u0), .val (.int u1), .val (.int u2), .val (.int u3), .val (.int u4), .val (.int (2 : Int32)), .val (.int (1 : Int32)), .val (.int l1), .val (.int k2), .val (.int l2), .val (.int k3), .val (.int l3), .val (.int k4), .val (.int l4), .val (.int k5), .unset, .unset] [(.int (2 : Int32))]))
            refine own_st (fun _ k => XS.iconst X0.here hx rfl (hb hby at_147) k) ?_
            show own_Go _ _ _ _ (s₁.setTop (mkF m 148 #[.val (.int u0), .val (.int u1), .val (.int u2), .val (.int u3), .val (.int u4), .val (.int (2 : Int32)), .val (.int (1 : Int32)), .val (.int l1), .val (.int k2), .val (.int l2), .val (.int k3), .val (.int l3), .val (.int k4), .val (.int l4), .val (.int k5), .unset, .unset] [(.int (1 : Int32)), (.int (2 : Int32))]))
            refine own_st (fun _ k => XS.icmpYes X0.here hx rfl (pc0 := 148) (pc' := 167) rfl (hb hby at_148) rfl (feq (by decide : ¬ ((2 : Int32) = (1 : Int32)))).2 (by decide) (by decide) k) ?_
            show own_Go _ _ _ _ (s₁.setTop (mkF m 167 #[.val (.int u0), .val (.int u1), .val (.int u2), .val (.int u3), .val (.int u4), .val (.int (2 : Int32)), .val (.int (1 : Int32)), .val (.int l1), .val (.int k2), .val (.int l2), .val (.int k3), .val (.int l3), .val (.int k4), .val (.int l4), .val (.int k5), .unset, .unset] []))
            refine own_st (fun _ k => XS.iload X0.here hx rfl (hb hby at_167) rfl k) ?_
            show own_Go _ _ _ _ (s₁.setTop (mkF m 169 #[.val (.int u0), .val (.int u1), .val (.int u2), .val (.int u3), .val (.int u4), .val (.int (2 : Int32)), .val (.int (1 : Int32)), .val (.int l1), .val (.int k2), .val (.int l2), .val (.int k3), .val (.int l3), .val (.int k4), .val (.int l4), .val (.int k5), .unset, .unset] [(.int (2 : Int32))]))
            refine own_st (fun _ k => XS.iconst X0.here hx rfl (hb hby at_169) k) ?_
            show own_Go _ _ _ _ (s₁.setTop (mkF m 170 #[.val (.int u0), .val (.int u1), .val (.int u2), .val (.int u3), .val (.int u4), .val (.int (2 : Int32)), .val (.int (1 : Int32)), .val (.int l1), .val (.int k2), .val (.int l2), .val (.int k3), .val (.int l3), .val (.int k4), .val (.int l4), .val (.int k5), .unset, .unset] [(.int (2 : Int32)), (.int (2 : Int32))]))
            refine own_st (fun _ k => XS.icmpNo X0.here hx rfl (hb hby at_170) rfl (teq (by decide : ((2 : Int32) = (2 : Int32)))).2 k) ?_
            show own_Go _ _ _ _ (s₁.setTop (mkF m 173 #[.val (.int u0), .val (.int u1), .val (.int u2), .val (.int u3), .val (.int u4), .val (.int (2 : Int32)), .val (.int (1 : Int32)), .val (.int l1), .val (.int k2), .val (.int l2), .val (.int k3), .val (.int l3), .val (.int k4), .val (.int l4), .val (.int k5), .unset, .unset] []))
            refine own_st (fun _ k => XS.iconst X0.here hx rfl (hb hby at_173) k) ?_
            show own_Go _ _ _ _ (s₁.setTop (mkF m 174 #[.val (.int u0), .val (.int u1), .val (.int u2), .val (.int u3), .val (.int u4), .val (.int (2 : Int32)), .val (.int (1 : Int32)), .val (.int l1), .val (.int k2), .val (.int l2), .val (.int k3), .val (.int l3), .val (.int k4), .val (.int l4), .val (.int k5), .unset, .unset] [(.int (2 : Int32))]))
            obtain ⟨T48, h48, k48, X48, e48, E48, A48, st48⟩ := newP X0 hx hZ (hw _ (List.mem_of_getElem? (i := 1) rfl)) e0 (g := (mkF m 174 #[.val (.int u0), .val (.int u1), .val (.int u2), .val (.int u3), .val (.int u4), .val (.int (2 : Int32)), .val (.int (1 : Int32)), .val (.int l1), .val (.int k2), .val (.int l2), .val (.int k3), .val (.int l3), .val (.int k4), .val (.int l4), .val (.int k5), .unset, .unset] [(.int (2 : Int32))])) rfl (hb hby at_174) rfl (by decide : ¬ ((2 : Int32) < (0 : Int32))) (cap := 2) (by decide : ((2 : Int32)).toNatClampNeg ≤ 2) (by decide) (by decide) (by decide)
            obtain ⟨b48, g48⟩ : ∃ z, z = h0.size := ⟨_, rfl⟩
            rw [← g48] at A48 st48
            refine own_st st48 ?_
            have Z48 : n0 ≤ h48.size := Nat.le_trans Z0 E48.1
            have gnb48 : n0 ≤ b48 := Nat.le_trans Z0 (Nat.le_of_eq g48.symm)
            have gkb48 : h0.size ≤ b48 := Nat.le_trans K0.1 (Nat.le_of_eq g48.symm)
            have K48 : Keep h0 h48 [] := K0.ext E48
            have V48 : Arv Z h48 b48 k48 .int (2 : Int32) [(.int (0 : Int32)), (.int (0 : Int32))] (.int (0 : Int32)) := (Arv.new A48 (by decide : ¬ ((2 : Int32) < (0 : Int32)))).pad (pad_rep [] (.int (0 : Int32)) 2)
            show own_Go _ _ _ _ (T48.setTop (mkF m 176 #[.val (.int u0), .val (.int u1), .val (.int u2), .val (.int u3), .val (.int u4), .val (.int (2 : Int32)), .val (.int (1 : Int32)), .val (.int l1), .val (.int k2), .val (.int l2), .val (.int k3), .val (.int l3), .val (.int k4), .val (.int l4), .val (.int k5), .unset, .unset] [(.ref b48)]))
            refine own_st (fun _ k => XS.dup X48.here hx rfl (hb hby at_176) rfl rfl k) ?_
            show own_Go _ _ _ _ (T48.setTop (mkF m 177 #[.val (.int u0), .val (.int u1), .val (.int u2), .val (.int u3), .val (.int u4), .val (.int (2 : Int32)), .val (.int (1 : Int32)), .val (.int l1), .val (.int k2), .val (.int l2), .val (.int k3), .val (.int l3), .val (.int k4), .val (.int l4), .val (.int k5), .unset, .unset] [(.ref b48), (.ref b48)]))
            refine own_st (fun _ k => XS.iconst X48.here hx rfl (hb hby at_177) k) ?_
            show own_Go _ _ _ _ (T48.setTop (mkF m 178 #[.val (.int u0), .val (.int u1), .val (.int u2), .val (.int u3), .val (.int u4), .val (.int (2 : Int32)), .val (.int (1 : Int32)), .val (.int l1), .val (.int k2), .val (.int l2), .val (.int k3), .val (.int l3), .val (.int k4), .val (.int l4), .val (.int k5), .unset, .unset] [(.int (0 : Int32)), (.ref b48), (.ref b48)]))
            refine own_st (fun _ k => XS.iconst X48.here hx rfl (hb hby at_178) k) ?_
            show own_Go _ _ _ _ (T48.setTop (mkF m 179 #[.val (.int u0), .val (.int u1), .val (.int u2), .val (.int u3), .val (.int u4), .val (.int (2 : Int32)), .val (.int (1 : Int32)), .val (.int l1), .val (.int k2), .val (.int l2), .val (.int k3), .val (.int l3), .val (.int k4), .val (.int l4), .val (.int k5), .unset, .unset] [(.int (0 : Int32)), (.int (0 : Int32)), (.ref b48), (.ref b48)]))
            obtain ⟨cl49, Ar49, Kd49, Sz49, Nn49, Hs49, Gs49⟩ := id V48
            obtain ⟨T49, h49, X49, e49, W49, st49⟩ := stI X48 hx hZ e48 Ar49 (j := (0 : Int32)) (inb_of Sz49 ⟨(by decide : ¬ ((0 : Int32) < (0 : Int32))), (by decide : (0 : Int32) < (2 : Int32))⟩) (g := (mkF m 179 #[.val (.int u0), .val (.int u1), .val (.int u2), .val (.int u3), .val (.int u4), .val (.int (2 : Int32)), .val (.int (1 : Int32)), .val (.int l1), .val (.int k2), .val (.int l2), .val (.int k3), .val (.int l3), .val (.int k4), .val (.int l4), .val (.int k5), .unset, .unset] [(.int (0 : Int32)), (.int (0 : Int32)), (.ref b48), (.ref b48)])) rfl rfl (hb hby at_179)
            refine own_st st49 ?_
            have V49 := Arv.set Ar49 Kd49 Sz49 Nn49 Hs49 Gs49 rfl W49 0 rfl (Nat.le_of_ble_eq_true rfl)
            have V49' : Arv Z h49 b48 k48 .int (2 : Int32) [(.int (0 : Int32)), (.int (0 : Int32))] (.int (0 : Int32)) := V49
            have Z49 : n0 ≤ h49.size := Nat.le_trans Z48 (Nat.le_of_eq W49.size.symm)
            have N49 := Fr.snoc X49 N0 gnb48
            have K49 : Keep h0 h49 [] := K48.wr W49 (Or.inr gkb48)
            show own_Go _ _ _ _ (T49.setTop (mkF m 180 #[.val (.int u0), .val (.int u1), .val (.int u2), .val (.int u3), .val (.int u4), .val (.int (2 : Int32)), .val (.int (1 : Int32)), .val (.int l1), .val (.int k2), .val (.int l2), .val (.int k3), .val (.int l3), .val (.int k4), .val (.int l4), .val (.int k5), .unset, .unset] [(.ref b48)]))
            refine own_st (fun _ k => XS.dup X49.here hx rfl (hb hby at_180) rfl rfl k) ?_
            show own_Go _ _ _ _ (T49.setTop (mkF m 181 #[.val (.int u0), .val (.int u1), .val (.int u2), .val (.int u3), .val (.int u4), .val (.int (2 : Int32)), .val (.int (1 : Int32)), .val (.int l1), .val (.int k2), .val (.int l2), .val (.int k3), .val (.int l3), .val (.int k4), .val (.int l4), .val (.int k5), .unset, .unset] [(.ref b48), (.ref b48)]))
            refine own_st (fun _ k => XS.iconst X49.here hx rfl (hb hby at_181) k) ?_
            show own_Go _ _ _ _ (T49.setTop (mkF m 182 #[.val (.int u0), .val (.int u1), .val (.int u2), .val (.int u3), .val (.int u4), .val (.int (2 : Int32)), .val (.int (1 : Int32)), .val (.int l1), .val (.int k2), .val (.int l2), .val (.int k3), .val (.int l3), .val (.int k4), .val (.int l4), .val (.int k5), .unset, .unset] [(.int (1 : Int32)), (.ref b48), (.ref b48)]))
            refine own_st (fun _ k => XS.iload X49.here hx rfl (hb hby at_182) rfl k) ?_
            show own_Go _ _ _ _ (T49.setTop (mkF m 184 #[.val (.int u0), .val (.int u1), .val (.int u2), .val (.int u3), .val (.int u4), .val (.int (2 : Int32)), .val (.int (1 : Int32)), .val (.int l1), .val (.int k2), .val (.int l2), .val (.int k3), .val (.int l3), .val (.int k4), .val (.int l4), .val (.int k5), .unset, .unset] [(.int l1), (.int (1 : Int32)), (.ref b48), (.ref b48)]))
            obtain ⟨cl50, Ar50, Kd50, Sz50, Nn50, Hs50, Gs50⟩ := id V49'
            obtain ⟨T50, h50, X50, e50, W50, st50⟩ := stI X49 hx hZ e49 Ar50 (j := (1 : Int32)) (inb_of Sz50 ⟨(by decide : ¬ ((1 : Int32) < (0 : Int32))), (by decide : (1 : Int32) < (2 : Int32))⟩) (g := (mkF m 184 #[.val (.int u0), .val (.int u1), .val (.int u2), .val (.int u3), .val (.int u4), .val (.int (2 : Int32)), .val (.int (1 : Int32)), .val (.int l1), .val (.int k2), .val (.int l2), .val (.int k3), .val (.int l3), .val (.int k4), .val (.int l4), .val (.int k5), .unset, .unset] [(.int l1), (.int (1 : Int32)), (.ref b48), (.ref b48)])) rfl rfl (hb hby at_184)
            refine own_st st50 ?_
            have V50 := Arv.set Ar50 Kd50 Sz50 Nn50 Hs50 Gs50 rfl W50 1 rfl (Nat.le_of_ble_eq_true rfl)
            have V50' : Arv Z h50 b48 k48 .int (2 : Int32) [(.int (0 : Int32)), (.int l1)] (.int (0 : Int32)) := V50
            have Z50 : n0 ≤ h50.size := Nat.le_trans Z49 (Nat.le_of_eq W50.size.symm)
            have N50 := Fr.snoc X50 N49 gnb48
            have K50 : Keep h0 h50 [] := K49.wr W50 (Or.inr gkb48)
            show own_Go _ _ _ _ (T50.setTop (mkF m 185 #[.val (.int u0), .val (.int u1), .val (.int u2), .val (.int u3), .val (.int u4), .val (.int (2 : Int32)), .val (.int (1 : Int32)), .val (.int l1), .val (.int k2), .val (.int l2), .val (.int k3), .val (.int l3), .val (.int k4), .val (.int l4), .val (.int k5), .unset, .unset] [(.ref b48)]))
            refine own_st (fun _ k => XS.astore X50.here hx rfl (hb hby at_185) rfl rfl (l' := #[.val (.int u0), .val (.int u1), .val (.int u2), .val (.int u3), .val (.int u4), .val (.int (2 : Int32)), .val (.int (1 : Int32)), .val (.int l1), .val (.int k2), .val (.int l2), .val (.int k3), .val (.int l3), .val (.int k4), .val (.int l4), .val (.int k5), .val (.ref b48), .unset]) rfl k) ?_
            show own_Go _ _ _ _ (T50.setTop (mkF m 187 #[.val (.int u0), .val (.int u1), .val (.int u2), .val (.int u3), .val (.int u4), .val (.int (2 : Int32)), .val (.int (1 : Int32)), .val (.int l1), .val (.int k2), .val (.int l2), .val (.int k3), .val (.int l3), .val (.int k4), .val (.int l4), .val (.int k5), .val (.ref b48), .unset] []))
            refine own_st (fun _ k => XS.iload X50.here hx rfl (hb hby at_187) rfl k) ?_
            show own_Go _ _ _ _ (T50.setTop (mkF m 189 #[.val (.int u0), .val (.int u1), .val (.int u2), .val (.int u3), .val (.int u4), .val (.int (2 : Int32)), .val (.int (1 : Int32)), .val (.int l1), .val (.int k2), .val (.int l2), .val (.int k3), .val (.int l3), .val (.int k4), .val (.int l4), .val (.int k5), .val (.ref b48), .unset] [(.int k2)]))
            refine own_st (fun _ k => XS.istore X50.here hx rfl (hb hby at_189) rfl (l' := #[.val (.int u0), .val (.int u1), .val (.int u2), .val (.int u3), .val (.int u4), .val (.int (2 : Int32)), .val (.int (1 : Int32)), .val (.int l1), .val (.int k2), .val (.int l2), .val (.int k3), .val (.int l3), .val (.int k4), .val (.int l4), .val (.int k5), .val (.ref b48), .val (.int k2)]) rfl k) ?_
            show own_Go _ _ _ _ (T50.setTop (mkF m 191 #[.val (.int u0), .val (.int u1), .val (.int u2), .val (.int u3), .val (.int u4), .val (.int (2 : Int32)), .val (.int (1 : Int32)), .val (.int l1), .val (.int k2), .val (.int l2), .val (.int k3), .val (.int l3), .val (.int k4), .val (.int l4), .val (.int k5), .val (.ref b48), .val (.int k2)] []))
            refine own_st (fun _ k => XS.goto X50.here hx rfl (pc0 := 191) (pc' := 296) rfl (hb hby at_191) (by decide) (by decide) k) ?_
            show own_Go _ _ _ _ (T50.setTop (mkF m 296 #[.val (.int u0), .val (.int u1), .val (.int u2), .val (.int u3), .val (.int u4), .val (.int (2 : Int32)), .val (.int (1 : Int32)), .val (.int l1), .val (.int k2), .val (.int l2), .val (.int k3), .val (.int l3), .val (.int k4), .val (.int l4), .val (.int k5), .val (.ref b48), .val (.int k2)] []))
            refine own_st (fun _ k => XS.aload X50.here hx rfl (hb hby at_296) rfl rfl k) ?_
            show own_Go _ _ _ _ (T50.setTop (mkF m 298 #[.val (.int u0), .val (.int u1), .val (.int u2), .val (.int u3), .val (.int u4), .val (.int (2 : Int32)), .val (.int (1 : Int32)), .val (.int l1), .val (.int k2), .val (.int l2), .val (.int k3), .val (.int l3), .val (.int k4), .val (.int l4), .val (.int k5), .val (.ref b48), .val (.int k2)] [(.ref b48)]))
            obtain ⟨_, _, ⟨T51, L51, k51, n51⟩, -, X51, ⟨Lc51, hQ51, l51, y51, z51⟩, st51⟩ := Jvm.LawKit.callS X50 hx (y := (⟨"com/example/barred_owl/barredowl/Embedding", "componentCount", "([I)I"⟩ : MethodName)) hown (mvT hZ (hw _ (List.mem_of_getElem? (i := 2) rfl))) (mvT hZ (hw _ (List.mem_of_getElem? (i := 3) rfl))) (mvT hZ (hw _ (List.mem_of_getElem? (i := 4) rfl))) (mvT hZ (hw _ (List.mem_of_getElem? (i := 5) rfl))) (by decide) (backOf (W := 0) (rm1_2 l Z a0 hw [] b48 k48 (0 : Int32) l1 h50 n0 Z50 V50') hZ (hw _ (List.mem_of_getElem? (i := 5) rfl)) (hw _ (List.mem_of_getElem? (i := 4) rfl)) (by decide) (by decide)) (g := (mkF m 298 #[.val (.int u0), .val (.int u1), .val (.int u2), .val (.int u3), .val (.int u4), .val (.int (2 : Int32)), .val (.int (1 : Int32)), .val (.int l1), .val (.int k2), .val (.int l2), .val (.int k3), .val (.int l3), .val (.int k4), .val (.int l4), .val (.int k5), .val (.ref b48), .val (.int k2)] [(.ref b48)])) rfl (by rw [hml]; rfl) (argsL := [(.ref b48)]) (rest := []) (lenOf own_pd1 rfl) rfl (by show 2 * 0 + _ ≤ _; exact Nat.le_of_eq rfl) (hb hby at_298) (fun _ _ => ⟨rfl, e50, (by decide : 1 + 0 ≤ _), (by decide : 2 + 0 ≤ _)⟩)
            dsimp only [Pt.U, Pt.locs, Pt.cells, Pt.slots] at X51 l51 y51 z51 st51 hQ51
            subst l51 y51 z51
            obtain ⟨rfl, Nq51, eq51⟩ := hQ51
            have N51 := Fr.app N50 Nq51
            refine own_st st51 ?_
            show own_Go _ _ _ _ (T51.setTop (mkF m 301 #[.val (.int u0), .val (.int u1), .val (.int u2), .val (.int u3), .val (.int u4), .val (.int (2 : Int32)), .val (.int (1 : Int32)), .val (.int l1), .val (.int k2), .val (.int l2), .val (.int k3), .val (.int l3), .val (.int k4), .val (.int l4), .val (.int k5), .val (.ref b48), .val (.int k2)] [(.int (own_cc2 (0 : Int32) l1))]))
            refine own_st (fun _ k => XS.iload X51.here hx rfl (hb hby at_301) rfl k) ?_
            show own_Go _ _ _ _ (T51.setTop (mkF m 303 #[.val (.int u0), .val (.int u1), .val (.int u2), .val (.int u3), .val (.int u4), .val (.int (2 : Int32)), .val (.int (1 : Int32)), .val (.int l1), .val (.int k2), .val (.int l2), .val (.int k3), .val (.int l3), .val (.int k4), .val (.int l4), .val (.int k5), .val (.ref b48), .val (.int k2)] [(.int k2), (.int (own_cc2 (0 : Int32) l1))]))
            refine own_st (fun _ k => XS.icmpNo X51.here hx rfl (hb hby at_303) rfl (teq (by
                unfold own_cc2
                have z0 := hJ0; have z1 := hJ1; have z2 := hJ2; have z3 := hJ3
                unfold own_J at z0 z1 z2 z3
                dsimp only at z0 z1 z2 z3
                simp only [Int32.reduceToInt] at z0 z1 z2 z3
                have y0 : ((0 : Int32) + (1 : Int32)).toInt = 1 := by decide
                have y1 := own_up l1 (by omega); have y2 := own_up l2 (by omega); have y3 := own_up l3 (by omega); have y4 := own_up l4 (by omega)
                simp only [← Int32.toInt_inj, own_mxi, Int32.reduceToInt, y0, y1, y2, y3, y4]
                (repeat' split) <;> omega)).2 k) ?_
            show own_Go _ _ _ _ (T51.setTop (mkF m 306 #[.val (.int u0), .val (.int u1), .val (.int u2), .val (.int u3), .val (.int u4), .val (.int (2 : Int32)), .val (.int (1 : Int32)), .val (.int l1), .val (.int k2), .val (.int l2), .val (.int k3), .val (.int l3), .val (.int k4), .val (.int l4), .val (.int k5), .val (.ref b48), .val (.int k2)] []))
            refine own_st (fun _ k => XS.iconst X51.here hx rfl (hb hby at_306) k) ?_
            show own_Go _ _ _ _ (T51.setTop (mkF m 307 #[.val (.int u0), .val (.int u1), .val (.int u2), .val (.int u3), .val (.int u4), .val (.int (2 : Int32)), .val (.int (1 : Int32)), .val (.int l1), .val (.int k2), .val (.int l2), .val (.int k3), .val (.int l3), .val (.int k4), .val (.int l4), .val (.int k5), .val (.ref b48), .val (.int k2)] [(.int (1 : Int32))]))
            refine own_st (fun _ k => XS.goto X51.here hx rfl (pc0 := 307) (pc' := 311) rfl (hb hby at_307) (by decide) (by decide) k) ?_
            show own_Go _ _ _ _ (T51.setTop (mkF m 311 #[.val (.int u0), .val (.int u1), .val (.int u2), .val (.int u3), .val (.int u4), .val (.int (2 : Int32)), .val (.int (1 : Int32)), .val (.int l1), .val (.int k2), .val (.int l2), .val (.int k3), .val (.int l3), .val (.int k4), .val (.int l4), .val (.int k5), .val (.ref b48), .val (.int k2)] [(.int (1 : Int32))]))
            obtain ⟨fs, hr, hrun, hended, hW, hsame⟩ := X51.leave (v := some (.int (1 : Int32))) (fun h => by rw [Bd.returns] at h; cases h)
            refine own_out (retN X51 hx (t := .boolean) Bd.returns (by simp) (hb hby at_311) hr) ⟨hrun, hended, _, _, rfl, ?_, ⟨_, rfl⟩, hW, hsame.mono (by decide) (by decide)⟩
            show Q0 Z u0 u1 u2 u3 u4 h0 n0 _ T51.heap _
            exact ⟨rfl, N51⟩
          · skip
            rw [hs42]
            show own_Go _ _ _ _ (s₁.setTop (mkF m 129 #[.val (.int u0), .val (.int u1), .val (.int u2), .val (.int u3), .val (.int u4), .val (.int (3 : Int32)), .val (.int (1 : Int32)), .val (.int l1), .val (.int k2), .val (.int l2), .val (.int k3), .val (.int l3), .val (.int k4), .val (.int l4), .val (.int k5), .unset, .unset] []))
            refine own_st (fun _ k => XS.iload X0.here hx rfl (hb hby at_129) rfl k) ?_
            show own_Go _ _ _ _ (s₁.setTop (mkF m 131 #[.val (.int u0), .val (.int u1), .val (.int u2), .val (.int u3), .val (.int u4), .val (.int (3 : Int32)), .val (.int (1 : Int32)), .val (.int l1), .val (.int k2), .val (.int l2), .val (.int k3), .val (.int l3), .val (.int k4), .val (.int l4), .val (.int k5), .unset, .unset] [(.int (3 : Int32))]))
            refine own_st (fun _ k => XS.ifYes X0.here hx rfl (pc0 := 131) (pc' := 145) rfl (hb hby at_131) rfl ((if0 _ _).trans (feq (by decide : ¬ ((3 : Int32) = (0 : Int32)))).2) (by decide) (by decide) k) ?_
            show own_Go _ _ _ _ (s₁.setTop (mkF m 145 #[.val (.int u0), .val (.int u1), .val (.int u2), .val (.int u3), .val (.int u4), .val (.int (3 : Int32)), .val (.int (1 : Int32)), .val (.int l1), .val (.int k2), .val (.int l2), .val (.int k3), .val (.int l3), .val (.int k4), .val (.int l4), .val (.int k5), .unset, .unset] []))
            refine own_st (fun _ k => XS.iload X0.here hx rfl (hb hby at_145) rfl k) ?_
            show own_Go _ _ _ _ (s₁.setTop (mkF m 147 #[.val (.int u0), .val (.int u1), .val (.int u2), .val (.int u3), .val (.int u4), .val (.int (3 : Int32)), .val (.int (1 : Int32)), .val (.int l1), .val (.int k2), .val (.int l2), .val (.int k3), .val (.int l3), .val (.int k4), .val (.int l4), .val (.int k5), .unset, .unset] [(.int (3 : Int32))]))
            refine own_st (fun _ k => XS.iconst X0.here hx rfl (hb hby at_147) k) ?_
            show own_Go _ _ _ _ (s₁.setTop (mkF m 148 #[.val (.int u0), .val (.int u1), .val (.int u2), .val (.int u3), .val (.int u4), .val (.int (3 : Int32)), .val (.int (1 : Int32)), .val (.int l1), .val (.int k2), .val (.int l2), .val (.int k3), .val (.int l3), .val (.int k4), .val (.int l4), .val (.int k5), .unset, .unset] [(.int (1 : Int32)), (.int (3 : Int32))]))
            refine own_st (fun _ k => XS.icmpYes X0.here hx rfl (pc0 := 148) (pc' := 167) rfl (hb hby at_148) rfl (feq (by decide : ¬ ((3 : Int32) = (1 : Int32)))).2 (by decide) (by decide) k) ?_
            show own_Go _ _ _ _ (s₁.setTop (mkF m 167 #[.val (.int u0), .val (.int u1), .val (.int u2), .val (.int u3), .val (.int u4), .val (.int (3 : Int32)), .val (.int (1 : Int32)), .val (.int l1), .val (.int k2), .val (.int l2), .val (.int k3), .val (.int l3), .val (.int k4), .val (.int l4), .val (.int k5), .unset, .unset] []))
            refine own_st (fun _ k => XS.iload X0.here hx rfl (hb hby at_167) rfl k) ?_
            show own_Go _ _ _ _ (s₁.setTop (mkF m 169 #[.val (.int u0), .val (.int u1), .val (.int u2), .val (.int u3), .val (.int u4), .val (.int (3 : Int32)), .val (.int (1 : Int32)), .val (.int l1), .val (.int k2), .val (.int l2), .val (.int k3), .val (.int l3), .val (.int k4), .val (.int l4), .val (.int k5), .unset, .unset] [(.int (3 : Int32))]))
            refine own_st (fun _ k => XS.iconst X0.here hx rfl (hb hby at_169) k) ?_
            show own_Go _ _ _ _ (s₁.setTop (mkF m 170 #[.val (.int u0), .val (.int u1), .val (.int u2), .val (.int u3), .val (.int u4), .val (.int (3 : Int32)), .val (.int (1 : Int32)), .val (.int l1), .val (.int k2), .val (.int l2), .val (.int k3), .val (.int l3), .val (.int k4), .val (.int l4), .val (.int k5), .unset, .unset] [(.int (2 : Int32)), (.int (3 : Int32))]))
            refine own_st (fun _ k => XS.icmpYes X0.here hx rfl (pc0 := 170) (pc' := 194) rfl (hb hby at_170) rfl (feq (by decide : ¬ ((3 : Int32) = (2 : Int32)))).2 (by decide) (by decide) k) ?_
            show own_Go _ _ _ _ (s₁.setTop (mkF m 194 #[.val (.int u0), .val (.int u1), .val (.int u2), .val (.int u3), .val (.int u4), .val (.int (3 : Int32)), .val (.int (1 : Int32)), .val (.int l1), .val (.int k2), .val (.int l2), .val (.int k3), .val (.int l3), .val (.int k4), .val (.int l4), .val (.int k5), .unset, .unset] []))
            refine own_st (fun _ k => XS.iload X0.here hx rfl (hb hby at_194) rfl k) ?_
            show own_Go _ _ _ _ (s₁.setTop (mkF m 196 #[.val (.int u0), .val (.int u1), .val (.int u2), .val (.int u3), .val (.int u4), .val (.int (3 : Int32)), .val (.int (1 : Int32)), .val (.int l1), .val (.int k2), .val (.int l2), .val (.int k3), .val (.int l3), .val (.int k4), .val (.int l4), .val (.int k5), .unset, .unset] [(.int (3 : Int32))]))
            refine own_st (fun _ k => XS.iconst X0.here hx rfl (hb hby at_196) k) ?_
            show own_Go _ _ _ _ (s₁.setTop (mkF m 197 #[.val (.int u0), .val (.int u1), .val (.int u2), .val (.int u3), .val (.int u4), .val (.int (3 : Int32)), .val (.int (1 : Int32)), .val (.int l1), .val (.int k2), .val (.int l2), .val (.int k3), .val (.int l3), .val (.int k4), .val (.int l4), .val (.int k5), .unset, .unset] [(.int (3 : Int32)), (.int (3 : Int32))]))
            refine own_st (fun _ k => XS.icmpNo X0.here hx rfl (hb hby at_197) rfl (teq (by decide : ((3 : Int32) = (3 : Int32)))).2 k) ?_
            show own_Go _ _ _ _ (s₁.setTop (mkF m 200 #[.val (.int u0), .val (.int u1), .val (.int u2), .val (.int u3), .val (.int u4), .val (.int (3 : Int32)), .val (.int (1 : Int32)), .val (.int l1), .val (.int k2), .val (.int l2), .val (.int k3), .val (.int l3), .val (.int k4), .val (.int l4), .val (.int k5), .unset, .unset] []))
            refine own_st (fun _ k => XS.iconst X0.here hx rfl (hb hby at_200) k) ?_
            show own_Go _ _ _ _ (s₁.setTop (mkF m 201 #[.val (.int u0), .val (.int u1), .val (.int u2), .val (.int u3), .val (.int u4), .val (.int (3 : Int32)), .val (.int (1 : Int32)), .val (.int l1), .val (.int k2), .val (.int l2), .val (.int k3), .val (.int l3), .val (.int k4), .val (.int l4), .val (.int k5), .unset, .unset] [(.int (3 : Int32))]))
            obtain ⟨T52, h52, k52, X52, e52, E52, A52, st52⟩ := newP X0 hx hZ (hw _ (List.mem_of_getElem? (i := 1) rfl)) e0 (g := (mkF m 201 #[.val (.int u0), .val (.int u1), .val (.int u2), .val (.int u3), .val (.int u4), .val (.int (3 : Int32)), .val (.int (1 : Int32)), .val (.int l1), .val (.int k2), .val (.int l2), .val (.int k3), .val (.int l3), .val (.int k4), .val (.int l4), .val (.int k5), .unset, .unset] [(.int (3 : Int32))])) rfl (hb hby at_201) rfl (by decide : ¬ ((3 : Int32) < (0 : Int32))) (cap := 3) (by decide : ((3 : Int32)).toNatClampNeg ≤ 3) (by decide) (by decide) (by decide)
            obtain ⟨b52, g52⟩ : ∃ z, z = h0.size := ⟨_, rfl⟩
            rw [← g52] at A52 st52
            refine own_st st52 ?_
            have Z52 : n0 ≤ h52.size := Nat.le_trans Z0 E52.1
            have gnb52 : n0 ≤ b52 := Nat.le_trans Z0 (Nat.le_of_eq g52.symm)
            have gkb52 : h0.size ≤ b52 := Nat.le_trans K0.1 (Nat.le_of_eq g52.symm)
            have K52 : Keep h0 h52 [] := K0.ext E52
            have V52 : Arv Z h52 b52 k52 .int (3 : Int32) [(.int (0 : Int32)), (.int (0 : Int32)), (.int (0 : Int32))] (.int (0 : Int32)) := (Arv.new A52 (by decide : ¬ ((3 : Int32) < (0 : Int32)))).pad (pad_rep [] (.int (0 : Int32)) 3)
            show own_Go _ _ _ _ (T52.setTop (mkF m 203 #[.val (.int u0), .val (.int u1), .val (.int u2), .val (.int u3), .val (.int u4), .val (.int (3 : Int32)), .val (.int (1 : Int32)), .val (.int l1), .val (.int k2), .val (.int l2), .val (.int k3), .val (.int l3), .val (.int k4), .val (.int l4), .val (.int k5), .unset, .unset] [(.ref b52)]))
            refine own_st (fun _ k => XS.dup X52.here hx rfl (hb hby at_203) rfl rfl k) ?_
            show own_Go _ _ _ _ (T52.setTop (mkF m 204 #[.val (.int u0), .val (.int u1), .val (.int u2), .val (.int u3), .val (.int u4), .val (.int (3 : Int32)), .val (.int (1 : Int32)), .val (.int l1), .val (.int k2), .val (.int l2), .val (.int k3), .val (.int l3), .val (.int k4), .val (.int l4), .val (.int k5), .unset, .unset] [(.ref b52), (.ref b52)]))
            refine own_st (fun _ k => XS.iconst X52.here hx rfl (hb hby at_204) k) ?_
            show own_Go _ _ _ _ (T52.setTop (mkF m 205 #[.val (.int u0), .val (.int u1), .val (.int u2), .val (.int u3), .val (.int u4), .val (.int (3 : Int32)), .val (.int (1 : Int32)), .val (.int l1), .val (.int k2), .val (.int l2), .val (.int k3), .val (.int l3), .val (.int k4), .val (.int l4), .val (.int k5), .unset, .unset] [(.int (0 : Int32)), (.ref b52), (.ref b52)]))
            refine own_st (fun _ k => XS.iconst X52.here hx rfl (hb hby at_205) k) ?_
            show own_Go _ _ _ _ (T52.setTop (mkF m 206 #[.val (.int u0), .val (.int u1), .val (.int u2), .val (.int u3), .val (.int u4), .val (.int (3 : Int32)), .val (.int (1 : Int32)), .val (.int l1), .val (.int k2), .val (.int l2), .val (.int k3), .val (.int l3), .val (.int k4), .val (.int l4), .val (.int k5), .unset, .unset] [(.int (0 : Int32)), (.int (0 : Int32)), (.ref b52), (.ref b52)]))
            obtain ⟨cl53, Ar53, Kd53, Sz53, Nn53, Hs53, Gs53⟩ := id V52
            obtain ⟨T53, h53, X53, e53, W53, st53⟩ := stI X52 hx hZ e52 Ar53 (j := (0 : Int32)) (inb_of Sz53 ⟨(by decide : ¬ ((0 : Int32) < (0 : Int32))), (by decide : (0 : Int32) < (3 : Int32))⟩) (g := (mkF m 206 #[.val (.int u0), .val (.int u1), .val (.int u2), .val (.int u3), .val (.int u4), .val (.int (3 : Int32)), .val (.int (1 : Int32)), .val (.int l1), .val (.int k2), .val (.int l2), .val (.int k3), .val (.int l3), .val (.int k4), .val (.int l4), .val (.int k5), .unset, .unset] [(.int (0 : Int32)), (.int (0 : Int32)), (.ref b52), (.ref b52)])) rfl rfl (hb hby at_206)
            refine own_st st53 ?_
            have V53 := Arv.set Ar53 Kd53 Sz53 Nn53 Hs53 Gs53 rfl W53 0 rfl (Nat.le_of_ble_eq_true rfl)
            have V53' : Arv Z h53 b52 k52 .int (3 : Int32) [(.int (0 : Int32)), (.int (0 : Int32)), (.int (0 : Int32))] (.int (0 : Int32)) := V53
            have Z53 : n0 ≤ h53.size := Nat.le_trans Z52 (Nat.le_of_eq W53.size.symm)
            have N53 := Fr.snoc X53 N0 gnb52
            have K53 : Keep h0 h53 [] := K52.wr W53 (Or.inr gkb52)
            show own_Go _ _ _ _ (T53.setTop (mkF m 207 #[.val (.int u0), .val (.int u1), .val (.int u2), .val (.int u3), .val (.int u4), .val (.int (3 : Int32)), .val (.int (1 : Int32)), .val (.int l1), .val (.int k2), .val (.int l2), .val (.int k3), .val (.int l3), .val (.int k4), .val (.int l4), .val (.int k5), .unset, .unset] [(.ref b52)]))
            refine own_st (fun _ k => XS.dup X53.here hx rfl (hb hby at_207) rfl rfl k) ?_
            show own_Go _ _ _ _ (T53.setTop (mkF m 208 #[.val (.int u0), .val (.int u1), .val (.int u2), .val (.int u3), .val (.int u4), .val (.int (3 : Int32)), .val (.int (1 : Int32)), .val (.int l1), .val (.int k2), .val (.int l2), .val (.int k3), .val (.int l3), .val (.int k4), .val (.int l4), .val (.int k5), .unset, .unset] [(.ref b52), (.ref b52)]))
            refine own_st (fun _ k => XS.iconst X53.here hx rfl (hb hby at_208) k) ?_
            show own_Go _ _ _ _ (T53.setTop (mkF m 209 #[.val (.int u0), .val (.int u1), .val (.int u2), .val (.int u3), .val (.int u4), .val (.int (3 : Int32)), .val (.int (1 : Int32)), .val (.int l1), .val (.int k2), .val (.int l2), .val (.int k3), .val (.int l3), .val (.int k4), .val (.int l4), .val (.int k5), .unset, .unset] [(.int (1 : Int32)), (.ref b52), (.ref b52)]))
            refine own_st (fun _ k => XS.iload X53.here hx rfl (hb hby at_209) rfl k) ?_
            show own_Go _ _ _ _ (T53.setTop (mkF m 211 #[.val (.int u0), .val (.int u1), .val (.int u2), .val (.int u3), .val (.int u4), .val (.int (3 : Int32)), .val (.int (1 : Int32)), .val (.int l1), .val (.int k2), .val (.int l2), .val (.int k3), .val (.int l3), .val (.int k4), .val (.int l4), .val (.int k5), .unset, .unset] [(.int l1), (.int (1 : Int32)), (.ref b52), (.ref b52)]))
            obtain ⟨cl54, Ar54, Kd54, Sz54, Nn54, Hs54, Gs54⟩ := id V53'
            obtain ⟨T54, h54, X54, e54, W54, st54⟩ := stI X53 hx hZ e53 Ar54 (j := (1 : Int32)) (inb_of Sz54 ⟨(by decide : ¬ ((1 : Int32) < (0 : Int32))), (by decide : (1 : Int32) < (3 : Int32))⟩) (g := (mkF m 211 #[.val (.int u0), .val (.int u1), .val (.int u2), .val (.int u3), .val (.int u4), .val (.int (3 : Int32)), .val (.int (1 : Int32)), .val (.int l1), .val (.int k2), .val (.int l2), .val (.int k3), .val (.int l3), .val (.int k4), .val (.int l4), .val (.int k5), .unset, .unset] [(.int l1), (.int (1 : Int32)), (.ref b52), (.ref b52)])) rfl rfl (hb hby at_211)
            refine own_st st54 ?_
            have V54 := Arv.set Ar54 Kd54 Sz54 Nn54 Hs54 Gs54 rfl W54 1 rfl (Nat.le_of_ble_eq_true rfl)
            have V54' : Arv Z h54 b52 k52 .int (3 : Int32) [(.int (0 : Int32)), (.int l1), (.int (0 : Int32))] (.int (0 : Int32)) := V54
            have Z54 : n0 ≤ h54.size := Nat.le_trans Z53 (Nat.le_of_eq W54.size.symm)
            have N54 := Fr.snoc X54 N53 gnb52
            have K54 : Keep h0 h54 [] := K53.wr W54 (Or.inr gkb52)
            show own_Go _ _ _ _ (T54.setTop (mkF m 212 #[.val (.int u0), .val (.int u1), .val (.int u2), .val (.int u3), .val (.int u4), .val (.int (3 : Int32)), .val (.int (1 : Int32)), .val (.int l1), .val (.int k2), .val (.int l2), .val (.int k3), .val (.int l3), .val (.int k4), .val (.int l4), .val (.int k5), .unset, .unset] [(.ref b52)]))
            refine own_st (fun _ k => XS.dup X54.here hx rfl (hb hby at_212) rfl rfl k) ?_
            show own_Go _ _ _ _ (T54.setTop (mkF m 213 #[.val (.int u0), .val (.int u1), .val (.int u2), .val (.int u3), .val (.int u4), .val (.int (3 : Int32)), .val (.int (1 : Int32)), .val (.int l1), .val (.int k2), .val (.int l2), .val (.int k3), .val (.int l3), .val (.int k4), .val (.int l4), .val (.int k5), .unset, .unset] [(.ref b52), (.ref b52)]))
            refine own_st (fun _ k => XS.iconst X54.here hx rfl (hb hby at_213) k) ?_
            show own_Go _ _ _ _ (T54.setTop (mkF m 214 #[.val (.int u0), .val (.int u1), .val (.int u2), .val (.int u3), .val (.int u4), .val (.int (3 : Int32)), .val (.int (1 : Int32)), .val (.int l1), .val (.int k2), .val (.int l2), .val (.int k3), .val (.int l3), .val (.int k4), .val (.int l4), .val (.int k5), .unset, .unset] [(.int (2 : Int32)), (.ref b52), (.ref b52)]))
            refine own_st (fun _ k => XS.iload X54.here hx rfl (hb hby at_214) rfl k) ?_
            show own_Go _ _ _ _ (T54.setTop (mkF m 216 #[.val (.int u0), .val (.int u1), .val (.int u2), .val (.int u3), .val (.int u4), .val (.int (3 : Int32)), .val (.int (1 : Int32)), .val (.int l1), .val (.int k2), .val (.int l2), .val (.int k3), .val (.int l3), .val (.int k4), .val (.int l4), .val (.int k5), .unset, .unset] [(.int l2), (.int (2 : Int32)), (.ref b52), (.ref b52)]))
            obtain ⟨cl55, Ar55, Kd55, Sz55, Nn55, Hs55, Gs55⟩ := id V54'
            obtain ⟨T55, h55, X55, e55, W55, st55⟩ := stI X54 hx hZ e54 Ar55 (j := (2 : Int32)) (inb_of Sz55 ⟨(by decide : ¬ ((2 : Int32) < (0 : Int32))), (by decide : (2 : Int32) < (3 : Int32))⟩) (g := (mkF m 216 #[.val (.int u0), .val (.int u1), .val (.int u2), .val (.int u3), .val (.int u4), .val (.int (3 : Int32)), .val (.int (1 : Int32)), .val (.int l1), .val (.int k2), .val (.int l2), .val (.int k3), .val (.int l3), .val (.int k4), .val (.int l4), .val (.int k5), .unset, .unset] [(.int l2), (.int (2 : Int32)), (.ref b52), (.ref b52)])) rfl rfl (hb hby at_216)
            refine own_st st55 ?_
            have V55 := Arv.set Ar55 Kd55 Sz55 Nn55 Hs55 Gs55 rfl W55 2 rfl (Nat.le_of_ble_eq_true rfl)
            have V55' : Arv Z h55 b52 k52 .int (3 : Int32) [(.int (0 : Int32)), (.int l1), (.int l2)] (.int (0 : Int32)) := V55
            have Z55 : n0 ≤ h55.size := Nat.le_trans Z54 (Nat.le_of_eq W55.size.symm)
            have N55 := Fr.snoc X55 N54 gnb52
            have K55 : Keep h0 h55 [] := K54.wr W55 (Or.inr gkb52)
            show own_Go _ _ _ _ (T55.setTop (mkF m 217 #[.val (.int u0), .val (.int u1), .val (.int u2), .val (.int u3), .val (.int u4), .val (.int (3 : Int32)), .val (.int (1 : Int32)), .val (.int l1), .val (.int k2), .val (.int l2), .val (.int k3), .val (.int l3), .val (.int k4), .val (.int l4), .val (.int k5), .unset, .unset] [(.ref b52)]))
            refine own_st (fun _ k => XS.astore X55.here hx rfl (hb hby at_217) rfl rfl (l' := #[.val (.int u0), .val (.int u1), .val (.int u2), .val (.int u3), .val (.int u4), .val (.int (3 : Int32)), .val (.int (1 : Int32)), .val (.int l1), .val (.int k2), .val (.int l2), .val (.int k3), .val (.int l3), .val (.int k4), .val (.int l4), .val (.int k5), .val (.ref b52), .unset]) rfl k) ?_
            show own_Go _ _ _ _ (T55.setTop (mkF m 219 #[.val (.int u0), .val (.int u1), .val (.int u2), .val (.int u3), .val (.int u4), .val (.int (3 : Int32)), .val (.int (1 : Int32)), .val (.int l1), .val (.int k2), .val (.int l2), .val (.int k3), .val (.int l3), .val (.int k4), .val (.int l4), .val (.int k5), .val (.ref b52), .unset] []))
            refine own_st (fun _ k => XS.iload X55.here hx rfl (hb hby at_219) rfl k) ?_
            show own_Go _ _ _ _ (T55.setTop (mkF m 221 #[.val (.int u0), .val (.int u1), .val (.int u2), .val (.int u3), .val (.int u4), .val (.int (3 : Int32)), .val (.int (1 : Int32)), .val (.int l1), .val (.int k2), .val (.int l2), .val (.int k3), .val (.int l3), .val (.int k4), .val (.int l4), .val (.int k5), .val (.ref b52), .unset] [(.int k3)]))
            refine own_st (fun _ k => XS.istore X55.here hx rfl (hb hby at_221) rfl (l' := #[.val (.int u0), .val (.int u1), .val (.int u2), .val (.int u3), .val (.int u4), .val (.int (3 : Int32)), .val (.int (1 : Int32)), .val (.int l1), .val (.int k2), .val (.int l2), .val (.int k3), .val (.int l3), .val (.int k4), .val (.int l4), .val (.int k5), .val (.ref b52), .val (.int k3)]) rfl k) ?_
            show own_Go _ _ _ _ (T55.setTop (mkF m 223 #[.val (.int u0), .val (.int u1), .val (.int u2), .val (.int u3), .val (.int u4), .val (.int (3 : Int32)), .val (.int (1 : Int32)), .val (.int l1), .val (.int k2), .val (.int l2), .val (.int k3), .val (.int l3), .val (.int k4), .val (.int l4), .val (.int k5), .val (.ref b52), .val (.int k3)] []))
            refine own_st (fun _ k => XS.goto X55.here hx rfl (pc0 := 223) (pc' := 296) rfl (hb hby at_223) (by decide) (by decide) k) ?_
            show own_Go _ _ _ _ (T55.setTop (mkF m 296 #[.val (.int u0), .val (.int u1), .val (.int u2), .val (.int u3), .val (.int u4), .val (.int (3 : Int32)), .val (.int (1 : Int32)), .val (.int l1), .val (.int k2), .val (.int l2), .val (.int k3), .val (.int l3), .val (.int k4), .val (.int l4), .val (.int k5), .val (.ref b52), .val (.int k3)] []))
            refine own_st (fun _ k => XS.aload X55.here hx rfl (hb hby at_296) rfl rfl k) ?_
            show own_Go _ _ _ _ (T55.setTop (mkF m 298 #[.val (.int u0), .val (.int u1), .val (.int u2), .val (.int u3), .val (.int u4), .val (.int (3 : Int32)), .val (.int (1 : Int32)), .val (.int l1), .val (.int k2), .val (.int l2), .val (.int k3), .val (.int l3), .val (.int k4), .val (.int l4), .val (.int k5), .val (.ref b52), .val (.int k3)] [(.ref b52)]))
            obtain ⟨_, _, ⟨T56, L56, k56, n56⟩, -, X56, ⟨Lc56, hQ56, l56, y56, z56⟩, st56⟩ := Jvm.LawKit.callS X55 hx (y := (⟨"com/example/barred_owl/barredowl/Embedding", "componentCount", "([I)I"⟩ : MethodName)) hown (mvT hZ (hw _ (List.mem_of_getElem? (i := 2) rfl))) (mvT hZ (hw _ (List.mem_of_getElem? (i := 3) rfl))) (mvT hZ (hw _ (List.mem_of_getElem? (i := 4) rfl))) (mvT hZ (hw _ (List.mem_of_getElem? (i := 5) rfl))) (by decide) (backOf (W := 0) (rm1_3 l Z a0 hw [] b52 k52 (0 : Int32) l1 l2 h55 n0 Z55 V55') hZ (hw _ (List.mem_of_getElem? (i := 5) rfl)) (hw _ (List.mem_of_getElem? (i := 4) rfl)) (by decide) (by decide)) (g := (mkF m 298 #[.val (.int u0), .val (.int u1), .val (.int u2), .val (.int u3), .val (.int u4), .val (.int (3 : Int32)), .val (.int (1 : Int32)), .val (.int l1), .val (.int k2), .val (.int l2), .val (.int k3), .val (.int l3), .val (.int k4), .val (.int l4), .val (.int k5), .val (.ref b52), .val (.int k3)] [(.ref b52)])) rfl (by rw [hml]; rfl) (argsL := [(.ref b52)]) (rest := []) (lenOf own_pd1 rfl) rfl (by show 2 * 0 + _ ≤ _; exact Nat.le_of_eq rfl) (hb hby at_298) (fun _ _ => ⟨rfl, e55, (by decide : 1 + 0 ≤ _), (by decide : 3 + 0 ≤ _)⟩)
            dsimp only [Pt.U, Pt.locs, Pt.cells, Pt.slots] at X56 l56 y56 z56 st56 hQ56
            subst l56 y56 z56
            obtain ⟨rfl, Nq56, eq56⟩ := hQ56
            have N56 := Fr.app N55 Nq56
            refine own_st st56 ?_
            show own_Go _ _ _ _ (T56.setTop (mkF m 301 #[.val (.int u0), .val (.int u1), .val (.int u2), .val (.int u3), .val (.int u4), .val (.int (3 : Int32)), .val (.int (1 : Int32)), .val (.int l1), .val (.int k2), .val (.int l2), .val (.int k3), .val (.int l3), .val (.int k4), .val (.int l4), .val (.int k5), .val (.ref b52), .val (.int k3)] [(.int (own_cc3 (0 : Int32) l1 l2))]))
            refine own_st (fun _ k => XS.iload X56.here hx rfl (hb hby at_301) rfl k) ?_
            show own_Go _ _ _ _ (T56.setTop (mkF m 303 #[.val (.int u0), .val (.int u1), .val (.int u2), .val (.int u3), .val (.int u4), .val (.int (3 : Int32)), .val (.int (1 : Int32)), .val (.int l1), .val (.int k2), .val (.int l2), .val (.int k3), .val (.int l3), .val (.int k4), .val (.int l4), .val (.int k5), .val (.ref b52), .val (.int k3)] [(.int k3), (.int (own_cc3 (0 : Int32) l1 l2))]))
            refine own_st (fun _ k => XS.icmpNo X56.here hx rfl (hb hby at_303) rfl (teq (by
                unfold own_cc3
                have z0 := hJ0; have z1 := hJ1; have z2 := hJ2; have z3 := hJ3
                unfold own_J at z0 z1 z2 z3
                dsimp only at z0 z1 z2 z3
                simp only [Int32.reduceToInt] at z0 z1 z2 z3
                have y0 : ((0 : Int32) + (1 : Int32)).toInt = 1 := by decide
                have y1 := own_up l1 (by omega); have y2 := own_up l2 (by omega); have y3 := own_up l3 (by omega); have y4 := own_up l4 (by omega)
                simp only [← Int32.toInt_inj, own_mxi, Int32.reduceToInt, y0, y1, y2, y3, y4]
                (repeat' split) <;> omega)).2 k) ?_
            show own_Go _ _ _ _ (T56.setTop (mkF m 306 #[.val (.int u0), .val (.int u1), .val (.int u2), .val (.int u3), .val (.int u4), .val (.int (3 : Int32)), .val (.int (1 : Int32)), .val (.int l1), .val (.int k2), .val (.int l2), .val (.int k3), .val (.int l3), .val (.int k4), .val (.int l4), .val (.int k5), .val (.ref b52), .val (.int k3)] []))
            refine own_st (fun _ k => XS.iconst X56.here hx rfl (hb hby at_306) k) ?_
            show own_Go _ _ _ _ (T56.setTop (mkF m 307 #[.val (.int u0), .val (.int u1), .val (.int u2), .val (.int u3), .val (.int u4), .val (.int (3 : Int32)), .val (.int (1 : Int32)), .val (.int l1), .val (.int k2), .val (.int l2), .val (.int k3), .val (.int l3), .val (.int k4), .val (.int l4), .val (.int k5), .val (.ref b52), .val (.int k3)] [(.int (1 : Int32))]))
            refine own_st (fun _ k => XS.goto X56.here hx rfl (pc0 := 307) (pc' := 311) rfl (hb hby at_307) (by decide) (by decide) k) ?_
            show own_Go _ _ _ _ (T56.setTop (mkF m 311 #[.val (.int u0), .val (.int u1), .val (.int u2), .val (.int u3), .val (.int u4), .val (.int (3 : Int32)), .val (.int (1 : Int32)), .val (.int l1), .val (.int k2), .val (.int l2), .val (.int k3), .val (.int l3), .val (.int k4), .val (.int l4), .val (.int k5), .val (.ref b52), .val (.int k3)] [(.int (1 : Int32))]))
            obtain ⟨fs, hr, hrun, hended, hW, hsame⟩ := X56.leave (v := some (.int (1 : Int32))) (fun h => by rw [Bd.returns] at h; cases h)
            refine own_out (retN X56 hx (t := .boolean) Bd.returns (by simp) (hb hby at_311) hr) ⟨hrun, hended, _, _, rfl, ?_, ⟨_, rfl⟩, hW, hsame.mono (by decide) (by decide)⟩
            show Q0 Z u0 u1 u2 u3 u4 h0 n0 _ T56.heap _
            exact ⟨rfl, N56⟩
          · skip
            rw [hs42]
            show own_Go _ _ _ _ (s₁.setTop (mkF m 129 #[.val (.int u0), .val (.int u1), .val (.int u2), .val (.int u3), .val (.int u4), .val (.int (4 : Int32)), .val (.int (1 : Int32)), .val (.int l1), .val (.int k2), .val (.int l2), .val (.int k3), .val (.int l3), .val (.int k4), .val (.int l4), .val (.int k5), .unset, .unset] []))
            refine own_st (fun _ k => XS.iload X0.here hx rfl (hb hby at_129) rfl k) ?_
            show own_Go _ _ _ _ (s₁.setTop (mkF m 131 #[.val (.int u0), .val (.int u1), .val (.int u2), .val (.int u3), .val (.int u4), .val (.int (4 : Int32)), .val (.int (1 : Int32)), .val (.int l1), .val (.int k2), .val (.int l2), .val (.int k3), .val (.int l3), .val (.int k4), .val (.int l4), .val (.int k5), .unset, .unset] [(.int (4 : Int32))]))
            refine own_st (fun _ k => XS.ifYes X0.here hx rfl (pc0 := 131) (pc' := 145) rfl (hb hby at_131) rfl ((if0 _ _).trans (feq (by decide : ¬ ((4 : Int32) = (0 : Int32)))).2) (by decide) (by decide) k) ?_
            show own_Go _ _ _ _ (s₁.setTop (mkF m 145 #[.val (.int u0), .val (.int u1), .val (.int u2), .val (.int u3), .val (.int u4), .val (.int (4 : Int32)), .val (.int (1 : Int32)), .val (.int l1), .val (.int k2), .val (.int l2), .val (.int k3), .val (.int l3), .val (.int k4), .val (.int l4), .val (.int k5), .unset, .unset] []))
            refine own_st (fun _ k => XS.iload X0.here hx rfl (hb hby at_145) rfl k) ?_
            show own_Go _ _ _ _ (s₁.setTop (mkF m 147 #[.val (.int u0), .val (.int u1), .val (.int u2), .val (.int u3), .val (.int u4), .val (.int (4 : Int32)), .val (.int (1 : Int32)), .val (.int l1), .val (.int k2), .val (.int l2), .val (.int k3), .val (.int l3), .val (.int k4), .val (.int l4), .val (.int k5), .unset, .unset] [(.int (4 : Int32))]))
            refine own_st (fun _ k => XS.iconst X0.here hx rfl (hb hby at_147) k) ?_
            show own_Go _ _ _ _ (s₁.setTop (mkF m 148 #[.val (.int u0), .val (.int u1), .val (.int u2), .val (.int u3), .val (.int u4), .val (.int (4 : Int32)), .val (.int (1 : Int32)), .val (.int l1), .val (.int k2), .val (.int l2), .val (.int k3), .val (.int l3), .val (.int k4), .val (.int l4), .val (.int k5), .unset, .unset] [(.int (1 : Int32)), (.int (4 : Int32))]))
            refine own_st (fun _ k => XS.icmpYes X0.here hx rfl (pc0 := 148) (pc' := 167) rfl (hb hby at_148) rfl (feq (by decide : ¬ ((4 : Int32) = (1 : Int32)))).2 (by decide) (by decide) k) ?_
            show own_Go _ _ _ _ (s₁.setTop (mkF m 167 #[.val (.int u0), .val (.int u1), .val (.int u2), .val (.int u3), .val (.int u4), .val (.int (4 : Int32)), .val (.int (1 : Int32)), .val (.int l1), .val (.int k2), .val (.int l2), .val (.int k3), .val (.int l3), .val (.int k4), .val (.int l4), .val (.int k5), .unset, .unset] []))
            refine own_st (fun _ k => XS.iload X0.here hx rfl (hb hby at_167) rfl k) ?_
            show own_Go _ _ _ _ (s₁.setTop (mkF m 169 #[.val (.int u0), .val (.int u1), .val (.int u2), .val (.int u3), .val (.int u4), .val (.int (4 : Int32)), .val (.int (1 : Int32)), .val (.int l1), .val (.int k2), .val (.int l2), .val (.int k3), .val (.int l3), .val (.int k4), .val (.int l4), .val (.int k5), .unset, .unset] [(.int (4 : Int32))]))
            refine own_st (fun _ k => XS.iconst X0.here hx rfl (hb hby at_169) k) ?_
            show own_Go _ _ _ _ (s₁.setTop (mkF m 170 #[.val (.int u0), .val (.int u1), .val (.int u2), .val (.int u3), .val (.int u4), .val (.int (4 : Int32)), .val (.int (1 : Int32)), .val (.int l1), .val (.int k2), .val (.int l2), .val (.int k3), .val (.int l3), .val (.int k4), .val (.int l4), .val (.int k5), .unset, .unset] [(.int (2 : Int32)), (.int (4 : Int32))]))
            refine own_st (fun _ k => XS.icmpYes X0.here hx rfl (pc0 := 170) (pc' := 194) rfl (hb hby at_170) rfl (feq (by decide : ¬ ((4 : Int32) = (2 : Int32)))).2 (by decide) (by decide) k) ?_
            show own_Go _ _ _ _ (s₁.setTop (mkF m 194 #[.val (.int u0), .val (.int u1), .val (.int u2), .val (.int u3), .val (.int u4), .val (.int (4 : Int32)), .val (.int (1 : Int32)), .val (.int l1), .val (.int k2), .val (.int l2), .val (.int k3), .val (.int l3), .val (.int k4), .val (.int l4), .val (.int k5), .unset, .unset] []))
            refine own_st (fun _ k => XS.iload X0.here hx rfl (hb hby at_194) rfl k) ?_
            show own_Go _ _ _ _ (s₁.setTop (mkF m 196 #[.val (.int u0), .val (.int u1), .val (.int u2), .val (.int u3), .val (.int u4), .val (.int (4 : Int32)), .val (.int (1 : Int32)), .val (.int l1), .val (.int k2), .val (.int l2), .val (.int k3), .val (.int l3), .val (.int k4), .val (.int l4), .val (.int k5), .unset, .unset] [(.int (4 : Int32))]))
            refine own_st (fun _ k => XS.iconst X0.here hx rfl (hb hby at_196) k) ?_
            show own_Go _ _ _ _ (s₁.setTop (mkF m 197 #[.val (.int u0), .val (.int u1), .val (.int u2), .val (.int u3), .val (.int u4), .val (.int (4 : Int32)), .val (.int (1 : Int32)), .val (.int l1), .val (.int k2), .val (.int l2), .val (.int k3), .val (.int l3), .val (.int k4), .val (.int l4), .val (.int k5), .unset, .unset] [(.int (3 : Int32)), (.int (4 : Int32))]))
            refine own_st (fun _ k => XS.icmpYes X0.here hx rfl (pc0 := 197) (pc' := 226) rfl (hb hby at_197) rfl (feq (by decide : ¬ ((4 : Int32) = (3 : Int32)))).2 (by decide) (by decide) k) ?_
            show own_Go _ _ _ _ (s₁.setTop (mkF m 226 #[.val (.int u0), .val (.int u1), .val (.int u2), .val (.int u3), .val (.int u4), .val (.int (4 : Int32)), .val (.int (1 : Int32)), .val (.int l1), .val (.int k2), .val (.int l2), .val (.int k3), .val (.int l3), .val (.int k4), .val (.int l4), .val (.int k5), .unset, .unset] []))
            refine own_st (fun _ k => XS.iload X0.here hx rfl (hb hby at_226) rfl k) ?_
            show own_Go _ _ _ _ (s₁.setTop (mkF m 228 #[.val (.int u0), .val (.int u1), .val (.int u2), .val (.int u3), .val (.int u4), .val (.int (4 : Int32)), .val (.int (1 : Int32)), .val (.int l1), .val (.int k2), .val (.int l2), .val (.int k3), .val (.int l3), .val (.int k4), .val (.int l4), .val (.int k5), .unset, .unset] [(.int (4 : Int32))]))
            refine own_st (fun _ k => XS.iconst X0.here hx rfl (hb hby at_228) k) ?_
            show own_Go _ _ _ _ (s₁.setTop (mkF m 229 #[.val (.int u0), .val (.int u1), .val (.int u2), .val (.int u3), .val (.int u4), .val (.int (4 : Int32)), .val (.int (1 : Int32)), .val (.int l1), .val (.int k2), .val (.int l2), .val (.int k3), .val (.int l3), .val (.int k4), .val (.int l4), .val (.int k5), .unset, .unset] [(.int (4 : Int32)), (.int (4 : Int32))]))
            refine own_st (fun _ k => XS.icmpNo X0.here hx rfl (hb hby at_229) rfl (teq (by decide : ((4 : Int32) = (4 : Int32)))).2 k) ?_
            show own_Go _ _ _ _ (s₁.setTop (mkF m 232 #[.val (.int u0), .val (.int u1), .val (.int u2), .val (.int u3), .val (.int u4), .val (.int (4 : Int32)), .val (.int (1 : Int32)), .val (.int l1), .val (.int k2), .val (.int l2), .val (.int k3), .val (.int l3), .val (.int k4), .val (.int l4), .val (.int k5), .unset, .unset] []))
            refine own_st (fun _ k => XS.iconst X0.here hx rfl (hb hby at_232) k) ?_
            show own_Go _ _ _ _ (s₁.setTop (mkF m 233 #[.val (.int u0), .val (.int u1), .val (.int u2), .val (.int u3), .val (.int u4), .val (.int (4 : Int32)), .val (.int (1 : Int32)), .val (.int l1), .val (.int k2), .val (.int l2), .val (.int k3), .val (.int l3), .val (.int k4), .val (.int l4), .val (.int k5), .unset, .unset] [(.int (4 : Int32))]))
            obtain ⟨T57, h57, k57, X57, e57, E57, A57, st57⟩ := newP X0 hx hZ (hw _ (List.mem_of_getElem? (i := 1) rfl)) e0 (g := (mkF m 233 #[.val (.int u0), .val (.int u1), .val (.int u2), .val (.int u3), .val (.int u4), .val (.int (4 : Int32)), .val (.int (1 : Int32)), .val (.int l1), .val (.int k2), .val (.int l2), .val (.int k3), .val (.int l3), .val (.int k4), .val (.int l4), .val (.int k5), .unset, .unset] [(.int (4 : Int32))])) rfl (hb hby at_233) rfl (by decide : ¬ ((4 : Int32) < (0 : Int32))) (cap := 4) (by decide : ((4 : Int32)).toNatClampNeg ≤ 4) (by decide) (by decide) (by decide)
            obtain ⟨b57, g57⟩ : ∃ z, z = h0.size := ⟨_, rfl⟩
            rw [← g57] at A57 st57
            refine own_st st57 ?_
            have Z57 : n0 ≤ h57.size := Nat.le_trans Z0 E57.1
            have gnb57 : n0 ≤ b57 := Nat.le_trans Z0 (Nat.le_of_eq g57.symm)
            have gkb57 : h0.size ≤ b57 := Nat.le_trans K0.1 (Nat.le_of_eq g57.symm)
            have K57 : Keep h0 h57 [] := K0.ext E57
            have V57 : Arv Z h57 b57 k57 .int (4 : Int32) [(.int (0 : Int32)), (.int (0 : Int32)), (.int (0 : Int32)), (.int (0 : Int32))] (.int (0 : Int32)) := (Arv.new A57 (by decide : ¬ ((4 : Int32) < (0 : Int32)))).pad (pad_rep [] (.int (0 : Int32)) 4)
            show own_Go _ _ _ _ (T57.setTop (mkF m 235 #[.val (.int u0), .val (.int u1), .val (.int u2), .val (.int u3), .val (.int u4), .val (.int (4 : Int32)), .val (.int (1 : Int32)), .val (.int l1), .val (.int k2), .val (.int l2), .val (.int k3), .val (.int l3), .val (.int k4), .val (.int l4), .val (.int k5), .unset, .unset] [(.ref b57)]))
            refine own_st (fun _ k => XS.dup X57.here hx rfl (hb hby at_235) rfl rfl k) ?_
            show own_Go _ _ _ _ (T57.setTop (mkF m 236 #[.val (.int u0), .val (.int u1), .val (.int u2), .val (.int u3), .val (.int u4), .val (.int (4 : Int32)), .val (.int (1 : Int32)), .val (.int l1), .val (.int k2), .val (.int l2), .val (.int k3), .val (.int l3), .val (.int k4), .val (.int l4), .val (.int k5), .unset, .unset] [(.ref b57), (.ref b57)]))
            refine own_st (fun _ k => XS.iconst X57.here hx rfl (hb hby at_236) k) ?_
            show own_Go _ _ _ _ (T57.setTop (mkF m 237 #[.val (.int u0), .val (.int u1), .val (.int u2), .val (.int u3), .val (.int u4), .val (.int (4 : Int32)), .val (.int (1 : Int32)), .val (.int l1), .val (.int k2), .val (.int l2), .val (.int k3), .val (.int l3), .val (.int k4), .val (.int l4), .val (.int k5), .unset, .unset] [(.int (0 : Int32)), (.ref b57), (.ref b57)]))
            refine own_st (fun _ k => XS.iconst X57.here hx rfl (hb hby at_237) k) ?_
            show own_Go _ _ _ _ (T57.setTop (mkF m 238 #[.val (.int u0), .val (.int u1), .val (.int u2), .val (.int u3), .val (.int u4), .val (.int (4 : Int32)), .val (.int (1 : Int32)), .val (.int l1), .val (.int k2), .val (.int l2), .val (.int k3), .val (.int l3), .val (.int k4), .val (.int l4), .val (.int k5), .unset, .unset] [(.int (0 : Int32)), (.int (0 : Int32)), (.ref b57), (.ref b57)]))
            obtain ⟨cl58, Ar58, Kd58, Sz58, Nn58, Hs58, Gs58⟩ := id V57
            obtain ⟨T58, h58, X58, e58, W58, st58⟩ := stI X57 hx hZ e57 Ar58 (j := (0 : Int32)) (inb_of Sz58 ⟨(by decide : ¬ ((0 : Int32) < (0 : Int32))), (by decide : (0 : Int32) < (4 : Int32))⟩) (g := (mkF m 238 #[.val (.int u0), .val (.int u1), .val (.int u2), .val (.int u3), .val (.int u4), .val (.int (4 : Int32)), .val (.int (1 : Int32)), .val (.int l1), .val (.int k2), .val (.int l2), .val (.int k3), .val (.int l3), .val (.int k4), .val (.int l4), .val (.int k5), .unset, .unset] [(.int (0 : Int32)), (.int (0 : Int32)), (.ref b57), (.ref b57)])) rfl rfl (hb hby at_238)
            refine own_st st58 ?_
            have V58 := Arv.set Ar58 Kd58 Sz58 Nn58 Hs58 Gs58 rfl W58 0 rfl (Nat.le_of_ble_eq_true rfl)
            have V58' : Arv Z h58 b57 k57 .int (4 : Int32) [(.int (0 : Int32)), (.int (0 : Int32)), (.int (0 : Int32)), (.int (0 : Int32))] (.int (0 : Int32)) := V58
            have Z58 : n0 ≤ h58.size := Nat.le_trans Z57 (Nat.le_of_eq W58.size.symm)
            have N58 := Fr.snoc X58 N0 gnb57
            have K58 : Keep h0 h58 [] := K57.wr W58 (Or.inr gkb57)
            show own_Go _ _ _ _ (T58.setTop (mkF m 239 #[.val (.int u0), .val (.int u1), .val (.int u2), .val (.int u3), .val (.int u4), .val (.int (4 : Int32)), .val (.int (1 : Int32)), .val (.int l1), .val (.int k2), .val (.int l2), .val (.int k3), .val (.int l3), .val (.int k4), .val (.int l4), .val (.int k5), .unset, .unset] [(.ref b57)]))
            refine own_st (fun _ k => XS.dup X58.here hx rfl (hb hby at_239) rfl rfl k) ?_
            show own_Go _ _ _ _ (T58.setTop (mkF m 240 #[.val (.int u0), .val (.int u1), .val (.int u2), .val (.int u3), .val (.int u4), .val (.int (4 : Int32)), .val (.int (1 : Int32)), .val (.int l1), .val (.int k2), .val (.int l2), .val (.int k3), .val (.int l3), .val (.int k4), .val (.int l4), .val (.int k5), .unset, .unset] [(.ref b57), (.ref b57)]))
            refine own_st (fun _ k => XS.iconst X58.here hx rfl (hb hby at_240) k) ?_
            show own_Go _ _ _ _ (T58.setTop (mkF m 241 #[.val (.int u0), .val (.int u1), .val (.int u2), .val (.int u3), .val (.int u4), .val (.int (4 : Int32)), .val (.int (1 : Int32)), .val (.int l1), .val (.int k2), .val (.int l2), .val (.int k3), .val (.int l3), .val (.int k4), .val (.int l4), .val (.int k5), .unset, .unset] [(.int (1 : Int32)), (.ref b57), (.ref b57)]))
            refine own_st (fun _ k => XS.iload X58.here hx rfl (hb hby at_241) rfl k) ?_
            show own_Go _ _ _ _ (T58.setTop (mkF m 243 #[.val (.int u0), .val (.int u1), .val (.int u2), .val (.int u3), .val (.int u4), .val (.int (4 : Int32)), .val (.int (1 : Int32)), .val (.int l1), .val (.int k2), .val (.int l2), .val (.int k3), .val (.int l3), .val (.int k4), .val (.int l4), .val (.int k5), .unset, .unset] [(.int l1), (.int (1 : Int32)), (.ref b57), (.ref b57)]))
            obtain ⟨cl59, Ar59, Kd59, Sz59, Nn59, Hs59, Gs59⟩ := id V58'
            obtain ⟨T59, h59, X59, e59, W59, st59⟩ := stI X58 hx hZ e58 Ar59 (j := (1 : Int32)) (inb_of Sz59 ⟨(by decide : ¬ ((1 : Int32) < (0 : Int32))), (by decide : (1 : Int32) < (4 : Int32))⟩) (g := (mkF m 243 #[.val (.int u0), .val (.int u1), .val (.int u2), .val (.int u3), .val (.int u4), .val (.int (4 : Int32)), .val (.int (1 : Int32)), .val (.int l1), .val (.int k2), .val (.int l2), .val (.int k3), .val (.int l3), .val (.int k4), .val (.int l4), .val (.int k5), .unset, .unset] [(.int l1), (.int (1 : Int32)), (.ref b57), (.ref b57)])) rfl rfl (hb hby at_243)
            refine own_st st59 ?_
            have V59 := Arv.set Ar59 Kd59 Sz59 Nn59 Hs59 Gs59 rfl W59 1 rfl (Nat.le_of_ble_eq_true rfl)
            have V59' : Arv Z h59 b57 k57 .int (4 : Int32) [(.int (0 : Int32)), (.int l1), (.int (0 : Int32)), (.int (0 : Int32))] (.int (0 : Int32)) := V59
            have Z59 : n0 ≤ h59.size := Nat.le_trans Z58 (Nat.le_of_eq W59.size.symm)
            have N59 := Fr.snoc X59 N58 gnb57
            have K59 : Keep h0 h59 [] := K58.wr W59 (Or.inr gkb57)
            show own_Go _ _ _ _ (T59.setTop (mkF m 244 #[.val (.int u0), .val (.int u1), .val (.int u2), .val (.int u3), .val (.int u4), .val (.int (4 : Int32)), .val (.int (1 : Int32)), .val (.int l1), .val (.int k2), .val (.int l2), .val (.int k3), .val (.int l3), .val (.int k4), .val (.int l4), .val (.int k5), .unset, .unset] [(.ref b57)]))
            refine own_st (fun _ k => XS.dup X59.here hx rfl (hb hby at_244) rfl rfl k) ?_
            show own_Go _ _ _ _ (T59.setTop (mkF m 245 #[.val (.int u0), .val (.int u1), .val (.int u2), .val (.int u3), .val (.int u4), .val (.int (4 : Int32)), .val (.int (1 : Int32)), .val (.int l1), .val (.int k2), .val (.int l2), .val (.int k3), .val (.int l3), .val (.int k4), .val (.int l4), .val (.int k5), .unset, .unset] [(.ref b57), (.ref b57)]))
            refine own_st (fun _ k => XS.iconst X59.here hx rfl (hb hby at_245) k) ?_
            show own_Go _ _ _ _ (T59.setTop (mkF m 246 #[.val (.int u0), .val (.int u1), .val (.int u2), .val (.int u3), .val (.int u4), .val (.int (4 : Int32)), .val (.int (1 : Int32)), .val (.int l1), .val (.int k2), .val (.int l2), .val (.int k3), .val (.int l3), .val (.int k4), .val (.int l4), .val (.int k5), .unset, .unset] [(.int (2 : Int32)), (.ref b57), (.ref b57)]))
            refine own_st (fun _ k => XS.iload X59.here hx rfl (hb hby at_246) rfl k) ?_
            show own_Go _ _ _ _ (T59.setTop (mkF m 248 #[.val (.int u0), .val (.int u1), .val (.int u2), .val (.int u3), .val (.int u4), .val (.int (4 : Int32)), .val (.int (1 : Int32)), .val (.int l1), .val (.int k2), .val (.int l2), .val (.int k3), .val (.int l3), .val (.int k4), .val (.int l4), .val (.int k5), .unset, .unset] [(.int l2), (.int (2 : Int32)), (.ref b57), (.ref b57)]))
            obtain ⟨cl60, Ar60, Kd60, Sz60, Nn60, Hs60, Gs60⟩ := id V59'
            obtain ⟨T60, h60, X60, e60, W60, st60⟩ := stI X59 hx hZ e59 Ar60 (j := (2 : Int32)) (inb_of Sz60 ⟨(by decide : ¬ ((2 : Int32) < (0 : Int32))), (by decide : (2 : Int32) < (4 : Int32))⟩) (g := (mkF m 248 #[.val (.int u0), .val (.int u1), .val (.int u2), .val (.int u3), .val (.int u4), .val (.int (4 : Int32)), .val (.int (1 : Int32)), .val (.int l1), .val (.int k2), .val (.int l2), .val (.int k3), .val (.int l3), .val (.int k4), .val (.int l4), .val (.int k5), .unset, .unset] [(.int l2), (.int (2 : Int32)), (.ref b57), (.ref b57)])) rfl rfl (hb hby at_248)
            refine own_st st60 ?_
            have V60 := Arv.set Ar60 Kd60 Sz60 Nn60 Hs60 Gs60 rfl W60 2 rfl (Nat.le_of_ble_eq_true rfl)
            have V60' : Arv Z h60 b57 k57 .int (4 : Int32) [(.int (0 : Int32)), (.int l1), (.int l2), (.int (0 : Int32))] (.int (0 : Int32)) := V60
            have Z60 : n0 ≤ h60.size := Nat.le_trans Z59 (Nat.le_of_eq W60.size.symm)
            have N60 := Fr.snoc X60 N59 gnb57
            have K60 : Keep h0 h60 [] := K59.wr W60 (Or.inr gkb57)
            show own_Go _ _ _ _ (T60.setTop (mkF m 249 #[.val (.int u0), .val (.int u1), .val (.int u2), .val (.int u3), .val (.int u4), .val (.int (4 : Int32)), .val (.int (1 : Int32)), .val (.int l1), .val (.int k2), .val (.int l2), .val (.int k3), .val (.int l3), .val (.int k4), .val (.int l4), .val (.int k5), .unset, .unset] [(.ref b57)]))
            refine own_st (fun _ k => XS.dup X60.here hx rfl (hb hby at_249) rfl rfl k) ?_
            show own_Go _ _ _ _ (T60.setTop (mkF m 250 #[.val (.int u0), .val (.int u1), .val (.int u2), .val (.int u3), .val (.int u4), .val (.int (4 : Int32)), .val (.int (1 : Int32)), .val (.int l1), .val (.int k2), .val (.int l2), .val (.int k3), .val (.int l3), .val (.int k4), .val (.int l4), .val (.int k5), .unset, .unset] [(.ref b57), (.ref b57)]))
            refine own_st (fun _ k => XS.iconst X60.here hx rfl (hb hby at_250) k) ?_
            show own_Go _ _ _ _ (T60.setTop (mkF m 251 #[.val (.int u0), .val (.int u1), .val (.int u2), .val (.int u3), .val (.int u4), .val (.int (4 : Int32)), .val (.int (1 : Int32)), .val (.int l1), .val (.int k2), .val (.int l2), .val (.int k3), .val (.int l3), .val (.int k4), .val (.int l4), .val (.int k5), .unset, .unset] [(.int (3 : Int32)), (.ref b57), (.ref b57)]))
            refine own_st (fun _ k => XS.iload X60.here hx rfl (hb hby at_251) rfl k) ?_
            show own_Go _ _ _ _ (T60.setTop (mkF m 253 #[.val (.int u0), .val (.int u1), .val (.int u2), .val (.int u3), .val (.int u4), .val (.int (4 : Int32)), .val (.int (1 : Int32)), .val (.int l1), .val (.int k2), .val (.int l2), .val (.int k3), .val (.int l3), .val (.int k4), .val (.int l4), .val (.int k5), .unset, .unset] [(.int l3), (.int (3 : Int32)), (.ref b57), (.ref b57)]))
            obtain ⟨cl61, Ar61, Kd61, Sz61, Nn61, Hs61, Gs61⟩ := id V60'
            obtain ⟨T61, h61, X61, e61, W61, st61⟩ := stI X60 hx hZ e60 Ar61 (j := (3 : Int32)) (inb_of Sz61 ⟨(by decide : ¬ ((3 : Int32) < (0 : Int32))), (by decide : (3 : Int32) < (4 : Int32))⟩) (g := (mkF m 253 #[.val (.int u0), .val (.int u1), .val (.int u2), .val (.int u3), .val (.int u4), .val (.int (4 : Int32)), .val (.int (1 : Int32)), .val (.int l1), .val (.int k2), .val (.int l2), .val (.int k3), .val (.int l3), .val (.int k4), .val (.int l4), .val (.int k5), .unset, .unset] [(.int l3), (.int (3 : Int32)), (.ref b57), (.ref b57)])) rfl rfl (hb hby at_253)
            refine own_st st61 ?_
            have V61 := Arv.set Ar61 Kd61 Sz61 Nn61 Hs61 Gs61 rfl W61 3 rfl (Nat.le_of_ble_eq_true rfl)
            have V61' : Arv Z h61 b57 k57 .int (4 : Int32) [(.int (0 : Int32)), (.int l1), (.int l2), (.int l3)] (.int (0 : Int32)) := V61
            have Z61 : n0 ≤ h61.size := Nat.le_trans Z60 (Nat.le_of_eq W61.size.symm)
            have N61 := Fr.snoc X61 N60 gnb57
            have K61 : Keep h0 h61 [] := K60.wr W61 (Or.inr gkb57)
            show own_Go _ _ _ _ (T61.setTop (mkF m 254 #[.val (.int u0), .val (.int u1), .val (.int u2), .val (.int u3), .val (.int u4), .val (.int (4 : Int32)), .val (.int (1 : Int32)), .val (.int l1), .val (.int k2), .val (.int l2), .val (.int k3), .val (.int l3), .val (.int k4), .val (.int l4), .val (.int k5), .unset, .unset] [(.ref b57)]))
            refine own_st (fun _ k => XS.astore X61.here hx rfl (hb hby at_254) rfl rfl (l' := #[.val (.int u0), .val (.int u1), .val (.int u2), .val (.int u3), .val (.int u4), .val (.int (4 : Int32)), .val (.int (1 : Int32)), .val (.int l1), .val (.int k2), .val (.int l2), .val (.int k3), .val (.int l3), .val (.int k4), .val (.int l4), .val (.int k5), .val (.ref b57), .unset]) rfl k) ?_
            show own_Go _ _ _ _ (T61.setTop (mkF m 256 #[.val (.int u0), .val (.int u1), .val (.int u2), .val (.int u3), .val (.int u4), .val (.int (4 : Int32)), .val (.int (1 : Int32)), .val (.int l1), .val (.int k2), .val (.int l2), .val (.int k3), .val (.int l3), .val (.int k4), .val (.int l4), .val (.int k5), .val (.ref b57), .unset] []))
            refine own_st (fun _ k => XS.iload X61.here hx rfl (hb hby at_256) rfl k) ?_
            show own_Go _ _ _ _ (T61.setTop (mkF m 258 #[.val (.int u0), .val (.int u1), .val (.int u2), .val (.int u3), .val (.int u4), .val (.int (4 : Int32)), .val (.int (1 : Int32)), .val (.int l1), .val (.int k2), .val (.int l2), .val (.int k3), .val (.int l3), .val (.int k4), .val (.int l4), .val (.int k5), .val (.ref b57), .unset] [(.int k4)]))
            refine own_st (fun _ k => XS.istore X61.here hx rfl (hb hby at_258) rfl (l' := #[.val (.int u0), .val (.int u1), .val (.int u2), .val (.int u3), .val (.int u4), .val (.int (4 : Int32)), .val (.int (1 : Int32)), .val (.int l1), .val (.int k2), .val (.int l2), .val (.int k3), .val (.int l3), .val (.int k4), .val (.int l4), .val (.int k5), .val (.ref b57), .val (.int k4)]) rfl k) ?_
            show own_Go _ _ _ _ (T61.setTop (mkF m 260 #[.val (.int u0), .val (.int u1), .val (.int u2), .val (.int u3), .val (.int u4), .val (.int (4 : Int32)), .val (.int (1 : Int32)), .val (.int l1), .val (.int k2), .val (.int l2), .val (.int k3), .val (.int l3), .val (.int k4), .val (.int l4), .val (.int k5), .val (.ref b57), .val (.int k4)] []))
            refine own_st (fun _ k => XS.goto X61.here hx rfl (pc0 := 260) (pc' := 296) rfl (hb hby at_260) (by decide) (by decide) k) ?_
            show own_Go _ _ _ _ (T61.setTop (mkF m 296 #[.val (.int u0), .val (.int u1), .val (.int u2), .val (.int u3), .val (.int u4), .val (.int (4 : Int32)), .val (.int (1 : Int32)), .val (.int l1), .val (.int k2), .val (.int l2), .val (.int k3), .val (.int l3), .val (.int k4), .val (.int l4), .val (.int k5), .val (.ref b57), .val (.int k4)] []))
            refine own_st (fun _ k => XS.aload X61.here hx rfl (hb hby at_296) rfl rfl k) ?_
            show own_Go _ _ _ _ (T61.setTop (mkF m 298 #[.val (.int u0), .val (.int u1), .val (.int u2), .val (.int u3), .val (.int u4), .val (.int (4 : Int32)), .val (.int (1 : Int32)), .val (.int l1), .val (.int k2), .val (.int l2), .val (.int k3), .val (.int l3), .val (.int k4), .val (.int l4), .val (.int k5), .val (.ref b57), .val (.int k4)] [(.ref b57)]))
            obtain ⟨_, _, ⟨T62, L62, k62, n62⟩, -, X62, ⟨Lc62, hQ62, l62, y62, z62⟩, st62⟩ := Jvm.LawKit.callS X61 hx (y := (⟨"com/example/barred_owl/barredowl/Embedding", "componentCount", "([I)I"⟩ : MethodName)) hown (mvT hZ (hw _ (List.mem_of_getElem? (i := 2) rfl))) (mvT hZ (hw _ (List.mem_of_getElem? (i := 3) rfl))) (mvT hZ (hw _ (List.mem_of_getElem? (i := 4) rfl))) (mvT hZ (hw _ (List.mem_of_getElem? (i := 5) rfl))) (by decide) (backOf (W := 0) (rm1_4 l Z a0 hw [] b57 k57 (0 : Int32) l1 l2 l3 h61 n0 Z61 V61') hZ (hw _ (List.mem_of_getElem? (i := 5) rfl)) (hw _ (List.mem_of_getElem? (i := 4) rfl)) (by decide) (by decide)) (g := (mkF m 298 #[.val (.int u0), .val (.int u1), .val (.int u2), .val (.int u3), .val (.int u4), .val (.int (4 : Int32)), .val (.int (1 : Int32)), .val (.int l1), .val (.int k2), .val (.int l2), .val (.int k3), .val (.int l3), .val (.int k4), .val (.int l4), .val (.int k5), .val (.ref b57), .val (.int k4)] [(.ref b57)])) rfl (by rw [hml]; rfl) (argsL := [(.ref b57)]) (rest := []) (lenOf own_pd1 rfl) rfl (by show 2 * 0 + _ ≤ _; exact Nat.le_of_eq rfl) (hb hby at_298) (fun _ _ => ⟨rfl, e61, (by decide : 1 + 0 ≤ _), (by decide : 4 + 0 ≤ _)⟩)
            dsimp only [Pt.U, Pt.locs, Pt.cells, Pt.slots] at X62 l62 y62 z62 st62 hQ62
            subst l62 y62 z62
            obtain ⟨rfl, Nq62, eq62⟩ := hQ62
            have N62 := Fr.app N61 Nq62
            refine own_st st62 ?_
            show own_Go _ _ _ _ (T62.setTop (mkF m 301 #[.val (.int u0), .val (.int u1), .val (.int u2), .val (.int u3), .val (.int u4), .val (.int (4 : Int32)), .val (.int (1 : Int32)), .val (.int l1), .val (.int k2), .val (.int l2), .val (.int k3), .val (.int l3), .val (.int k4), .val (.int l4), .val (.int k5), .val (.ref b57), .val (.int k4)] [(.int (own_cc4 (0 : Int32) l1 l2 l3))]))
            refine own_st (fun _ k => XS.iload X62.here hx rfl (hb hby at_301) rfl k) ?_
            show own_Go _ _ _ _ (T62.setTop (mkF m 303 #[.val (.int u0), .val (.int u1), .val (.int u2), .val (.int u3), .val (.int u4), .val (.int (4 : Int32)), .val (.int (1 : Int32)), .val (.int l1), .val (.int k2), .val (.int l2), .val (.int k3), .val (.int l3), .val (.int k4), .val (.int l4), .val (.int k5), .val (.ref b57), .val (.int k4)] [(.int k4), (.int (own_cc4 (0 : Int32) l1 l2 l3))]))
            refine own_st (fun _ k => XS.icmpNo X62.here hx rfl (hb hby at_303) rfl (teq (by
                unfold own_cc4
                have z0 := hJ0; have z1 := hJ1; have z2 := hJ2; have z3 := hJ3
                unfold own_J at z0 z1 z2 z3
                dsimp only at z0 z1 z2 z3
                simp only [Int32.reduceToInt] at z0 z1 z2 z3
                have y0 : ((0 : Int32) + (1 : Int32)).toInt = 1 := by decide
                have y1 := own_up l1 (by omega); have y2 := own_up l2 (by omega); have y3 := own_up l3 (by omega); have y4 := own_up l4 (by omega)
                simp only [← Int32.toInt_inj, own_mxi, Int32.reduceToInt, y0, y1, y2, y3, y4]
                (repeat' split) <;> omega)).2 k) ?_
            show own_Go _ _ _ _ (T62.setTop (mkF m 306 #[.val (.int u0), .val (.int u1), .val (.int u2), .val (.int u3), .val (.int u4), .val (.int (4 : Int32)), .val (.int (1 : Int32)), .val (.int l1), .val (.int k2), .val (.int l2), .val (.int k3), .val (.int l3), .val (.int k4), .val (.int l4), .val (.int k5), .val (.ref b57), .val (.int k4)] []))
            refine own_st (fun _ k => XS.iconst X62.here hx rfl (hb hby at_306) k) ?_
            show own_Go _ _ _ _ (T62.setTop (mkF m 307 #[.val (.int u0), .val (.int u1), .val (.int u2), .val (.int u3), .val (.int u4), .val (.int (4 : Int32)), .val (.int (1 : Int32)), .val (.int l1), .val (.int k2), .val (.int l2), .val (.int k3), .val (.int l3), .val (.int k4), .val (.int l4), .val (.int k5), .val (.ref b57), .val (.int k4)] [(.int (1 : Int32))]))
            refine own_st (fun _ k => XS.goto X62.here hx rfl (pc0 := 307) (pc' := 311) rfl (hb hby at_307) (by decide) (by decide) k) ?_
            show own_Go _ _ _ _ (T62.setTop (mkF m 311 #[.val (.int u0), .val (.int u1), .val (.int u2), .val (.int u3), .val (.int u4), .val (.int (4 : Int32)), .val (.int (1 : Int32)), .val (.int l1), .val (.int k2), .val (.int l2), .val (.int k3), .val (.int l3), .val (.int k4), .val (.int l4), .val (.int k5), .val (.ref b57), .val (.int k4)] [(.int (1 : Int32))]))
            obtain ⟨fs, hr, hrun, hended, hW, hsame⟩ := X62.leave (v := some (.int (1 : Int32))) (fun h => by rw [Bd.returns] at h; cases h)
            refine own_out (retN X62 hx (t := .boolean) Bd.returns (by simp) (hb hby at_311) hr) ⟨hrun, hended, _, _, rfl, ?_, ⟨_, rfl⟩, hW, hsame.mono (by decide) (by decide)⟩
            show Q0 Z u0 u1 u2 u3 u4 h0 n0 _ T62.heap _
            exact ⟨rfl, N62⟩
          · skip
            rw [hs42]
            show own_Go _ _ _ _ (s₁.setTop (mkF m 129 #[.val (.int u0), .val (.int u1), .val (.int u2), .val (.int u3), .val (.int u4), .val (.int (5 : Int32)), .val (.int (1 : Int32)), .val (.int l1), .val (.int k2), .val (.int l2), .val (.int k3), .val (.int l3), .val (.int k4), .val (.int l4), .val (.int k5), .unset, .unset] []))
            refine own_st (fun _ k => XS.iload X0.here hx rfl (hb hby at_129) rfl k) ?_
            show own_Go _ _ _ _ (s₁.setTop (mkF m 131 #[.val (.int u0), .val (.int u1), .val (.int u2), .val (.int u3), .val (.int u4), .val (.int (5 : Int32)), .val (.int (1 : Int32)), .val (.int l1), .val (.int k2), .val (.int l2), .val (.int k3), .val (.int l3), .val (.int k4), .val (.int l4), .val (.int k5), .unset, .unset] [(.int (5 : Int32))]))
            refine own_st (fun _ k => XS.ifYes X0.here hx rfl (pc0 := 131) (pc' := 145) rfl (hb hby at_131) rfl ((if0 _ _).trans (feq (by decide : ¬ ((5 : Int32) = (0 : Int32)))).2) (by decide) (by decide) k) ?_
            show own_Go _ _ _ _ (s₁.setTop (mkF m 145 #[.val (.int u0), .val (.int u1), .val (.int u2), .val (.int u3), .val (.int u4), .val (.int (5 : Int32)), .val (.int (1 : Int32)), .val (.int l1), .val (.int k2), .val (.int l2), .val (.int k3), .val (.int l3), .val (.int k4), .val (.int l4), .val (.int k5), .unset, .unset] []))
            refine own_st (fun _ k => XS.iload X0.here hx rfl (hb hby at_145) rfl k) ?_
            show own_Go _ _ _ _ (s₁.setTop (mkF m 147 #[.val (.int u0), .val (.int u1), .val (.int u2), .val (.int u3), .val (.int u4), .val (.int (5 : Int32)), .val (.int (1 : Int32)), .val (.int l1), .val (.int k2), .val (.int l2), .val (.int k3), .val (.int l3), .val (.int k4), .val (.int l4), .val (.int k5), .unset, .unset] [(.int (5 : Int32))]))
            refine own_st (fun _ k => XS.iconst X0.here hx rfl (hb hby at_147) k) ?_
            show own_Go _ _ _ _ (s₁.setTop (mkF m 148 #[.val (.int u0), .val (.int u1), .val (.int u2), .val (.int u3), .val (.int u4), .val (.int (5 : Int32)), .val (.int (1 : Int32)), .val (.int l1), .val (.int k2), .val (.int l2), .val (.int k3), .val (.int l3), .val (.int k4), .val (.int l4), .val (.int k5), .unset, .unset] [(.int (1 : Int32)), (.int (5 : Int32))]))
            refine own_st (fun _ k => XS.icmpYes X0.here hx rfl (pc0 := 148) (pc' := 167) rfl (hb hby at_148) rfl (feq (by decide : ¬ ((5 : Int32) = (1 : Int32)))).2 (by decide) (by decide) k) ?_
            show own_Go _ _ _ _ (s₁.setTop (mkF m 167 #[.val (.int u0), .val (.int u1), .val (.int u2), .val (.int u3), .val (.int u4), .val (.int (5 : Int32)), .val (.int (1 : Int32)), .val (.int l1), .val (.int k2), .val (.int l2), .val (.int k3), .val (.int l3), .val (.int k4), .val (.int l4), .val (.int k5), .unset, .unset] []))
            refine own_st (fun _ k => XS.iload X0.here hx rfl (hb hby at_167) rfl k) ?_
            show own_Go _ _ _ _ (s₁.setTop (mkF m 169 #[.val (.int u0), .val (.int u1), .val (.int u2), .val (.int u3), .val (.int u4), .val (.int (5 : Int32)), .val (.int (1 : Int32)), .val (.int l1), .val (.int k2), .val (.int l2), .val (.int k3), .val (.int l3), .val (.int k4), .val (.int l4), .val (.int k5), .unset, .unset] [(.int (5 : Int32))]))
            refine own_st (fun _ k => XS.iconst X0.here hx rfl (hb hby at_169) k) ?_
            show own_Go _ _ _ _ (s₁.setTop (mkF m 170 #[.val (.int u0), .val (.int u1), .val (.int u2), .val (.int u3), .val (.int u4), .val (.int (5 : Int32)), .val (.int (1 : Int32)), .val (.int l1), .val (.int k2), .val (.int l2), .val (.int k3), .val (.int l3), .val (.int k4), .val (.int l4), .val (.int k5), .unset, .unset] [(.int (2 : Int32)), (.int (5 : Int32))]))
            refine own_st (fun _ k => XS.icmpYes X0.here hx rfl (pc0 := 170) (pc' := 194) rfl (hb hby at_170) rfl (feq (by decide : ¬ ((5 : Int32) = (2 : Int32)))).2 (by decide) (by decide) k) ?_
            show own_Go _ _ _ _ (s₁.setTop (mkF m 194 #[.val (.int u0), .val (.int u1), .val (.int u2), .val (.int u3), .val (.int u4), .val (.int (5 : Int32)), .val (.int (1 : Int32)), .val (.int l1), .val (.int k2), .val (.int l2), .val (.int k3), .val (.int l3), .val (.int k4), .val (.int l4), .val (.int k5), .unset, .unset] []))
            refine own_st (fun _ k => XS.iload X0.here hx rfl (hb hby at_194) rfl k) ?_
            show own_Go _ _ _ _ (s₁.setTop (mkF m 196 #[.val (.int u0), .val (.int u1), .val (.int u2), .val (.int u3), .val (.int u4), .val (.int (5 : Int32)), .val (.int (1 : Int32)), .val (.int l1), .val (.int k2), .val (.int l2), .val (.int k3), .val (.int l3), .val (.int k4), .val (.int l4), .val (.int k5), .unset, .unset] [(.int (5 : Int32))]))
            refine own_st (fun _ k => XS.iconst X0.here hx rfl (hb hby at_196) k) ?_
            show own_Go _ _ _ _ (s₁.setTop (mkF m 197 #[.val (.int u0), .val (.int u1), .val (.int u2), .val (.int u3), .val (.int u4), .val (.int (5 : Int32)), .val (.int (1 : Int32)), .val (.int l1), .val (.int k2), .val (.int l2), .val (.int k3), .val (.int l3), .val (.int k4), .val (.int l4), .val (.int k5), .unset, .unset] [(.int (3 : Int32)), (.int (5 : Int32))]))
            refine own_st (fun _ k => XS.icmpYes X0.here hx rfl (pc0 := 197) (pc' := 226) rfl (hb hby at_197) rfl (feq (by decide : ¬ ((5 : Int32) = (3 : Int32)))).2 (by decide) (by decide) k) ?_
            show own_Go _ _ _ _ (s₁.setTop (mkF m 226 #[.val (.int u0), .val (.int u1), .val (.int u2), .val (.int u3), .val (.int u4), .val (.int (5 : Int32)), .val (.int (1 : Int32)), .val (.int l1), .val (.int k2), .val (.int l2), .val (.int k3), .val (.int l3), .val (.int k4), .val (.int l4), .val (.int k5), .unset, .unset] []))
            refine own_st (fun _ k => XS.iload X0.here hx rfl (hb hby at_226) rfl k) ?_
            show own_Go _ _ _ _ (s₁.setTop (mkF m 228 #[.val (.int u0), .val (.int u1), .val (.int u2), .val (.int u3), .val (.int u4), .val (.int (5 : Int32)), .val (.int (1 : Int32)), .val (.int l1), .val (.int k2), .val (.int l2), .val (.int k3), .val (.int l3), .val (.int k4), .val (.int l4), .val (.int k5), .unset, .unset] [(.int (5 : Int32))]))
            refine own_st (fun _ k => XS.iconst X0.here hx rfl (hb hby at_228) k) ?_
            show own_Go _ _ _ _ (s₁.setTop (mkF m 229 #[.val (.int u0), .val (.int u1), .val (.int u2), .val (.int u3), .val (.int u4), .val (.int (5 : Int32)), .val (.int (1 : Int32)), .val (.int l1), .val (.int k2), .val (.int l2), .val (.int k3), .val (.int l3), .val (.int k4), .val (.int l4), .val (.int k5), .unset, .unset] [(.int (4 : Int32)), (.int (5 : Int32))]))
            refine own_st (fun _ k => XS.icmpYes X0.here hx rfl (pc0 := 229) (pc' := 263) rfl (hb hby at_229) rfl (feq (by decide : ¬ ((5 : Int32) = (4 : Int32)))).2 (by decide) (by decide) k) ?_
            show own_Go _ _ _ _ (s₁.setTop (mkF m 263 #[.val (.int u0), .val (.int u1), .val (.int u2), .val (.int u3), .val (.int u4), .val (.int (5 : Int32)), .val (.int (1 : Int32)), .val (.int l1), .val (.int k2), .val (.int l2), .val (.int k3), .val (.int l3), .val (.int k4), .val (.int l4), .val (.int k5), .unset, .unset] []))
            refine own_st (fun _ k => XS.iconst X0.here hx rfl (hb hby at_263) k) ?_
            show own_Go _ _ _ _ (s₁.setTop (mkF m 264 #[.val (.int u0), .val (.int u1), .val (.int u2), .val (.int u3), .val (.int u4), .val (.int (5 : Int32)), .val (.int (1 : Int32)), .val (.int l1), .val (.int k2), .val (.int l2), .val (.int k3), .val (.int l3), .val (.int k4), .val (.int l4), .val (.int k5), .unset, .unset] [(.int (5 : Int32))]))
            obtain ⟨T63, h63, k63, X63, e63, E63, A63, st63⟩ := newP X0 hx hZ (hw _ (List.mem_of_getElem? (i := 1) rfl)) e0 (g := (mkF m 264 #[.val (.int u0), .val (.int u1), .val (.int u2), .val (.int u3), .val (.int u4), .val (.int (5 : Int32)), .val (.int (1 : Int32)), .val (.int l1), .val (.int k2), .val (.int l2), .val (.int k3), .val (.int l3), .val (.int k4), .val (.int l4), .val (.int k5), .unset, .unset] [(.int (5 : Int32))])) rfl (hb hby at_264) rfl (by decide : ¬ ((5 : Int32) < (0 : Int32))) (cap := 5) (by decide : ((5 : Int32)).toNatClampNeg ≤ 5) (by decide) (by decide) (by decide)
            obtain ⟨b63, g63⟩ : ∃ z, z = h0.size := ⟨_, rfl⟩
            rw [← g63] at A63 st63
            refine own_st st63 ?_
            have Z63 : n0 ≤ h63.size := Nat.le_trans Z0 E63.1
            have gnb63 : n0 ≤ b63 := Nat.le_trans Z0 (Nat.le_of_eq g63.symm)
            have gkb63 : h0.size ≤ b63 := Nat.le_trans K0.1 (Nat.le_of_eq g63.symm)
            have K63 : Keep h0 h63 [] := K0.ext E63
            have V63 : Arv Z h63 b63 k63 .int (5 : Int32) [(.int (0 : Int32)), (.int (0 : Int32)), (.int (0 : Int32)), (.int (0 : Int32)), (.int (0 : Int32))] (.int (0 : Int32)) := (Arv.new A63 (by decide : ¬ ((5 : Int32) < (0 : Int32)))).pad (pad_rep [] (.int (0 : Int32)) 5)
            show own_Go _ _ _ _ (T63.setTop (mkF m 266 #[.val (.int u0), .val (.int u1), .val (.int u2), .val (.int u3), .val (.int u4), .val (.int (5 : Int32)), .val (.int (1 : Int32)), .val (.int l1), .val (.int k2), .val (.int l2), .val (.int k3), .val (.int l3), .val (.int k4), .val (.int l4), .val (.int k5), .unset, .unset] [(.ref b63)]))
            refine own_st (fun _ k => XS.dup X63.here hx rfl (hb hby at_266) rfl rfl k) ?_
            show own_Go _ _ _ _ (T63.setTop (mkF m 267 #[.val (.int u0), .val (.int u1), .val (.int u2), .val (.int u3), .val (.int u4), .val (.int (5 : Int32)), .val (.int (1 : Int32)), .val (.int l1), .val (.int k2), .val (.int l2), .val (.int k3), .val (.int l3), .val (.int k4), .val (.int l4), .val (.int k5), .unset, .unset] [(.ref b63), (.ref b63)]))
            refine own_st (fun _ k => XS.iconst X63.here hx rfl (hb hby at_267) k) ?_
            show own_Go _ _ _ _ (T63.setTop (mkF m 268 #[.val (.int u0), .val (.int u1), .val (.int u2), .val (.int u3), .val (.int u4), .val (.int (5 : Int32)), .val (.int (1 : Int32)), .val (.int l1), .val (.int k2), .val (.int l2), .val (.int k3), .val (.int l3), .val (.int k4), .val (.int l4), .val (.int k5), .unset, .unset] [(.int (0 : Int32)), (.ref b63), (.ref b63)]))
            refine own_st (fun _ k => XS.iconst X63.here hx rfl (hb hby at_268) k) ?_
            show own_Go _ _ _ _ (T63.setTop (mkF m 269 #[.val (.int u0), .val (.int u1), .val (.int u2), .val (.int u3), .val (.int u4), .val (.int (5 : Int32)), .val (.int (1 : Int32)), .val (.int l1), .val (.int k2), .val (.int l2), .val (.int k3), .val (.int l3), .val (.int k4), .val (.int l4), .val (.int k5), .unset, .unset] [(.int (0 : Int32)), (.int (0 : Int32)), (.ref b63), (.ref b63)]))
            obtain ⟨cl64, Ar64, Kd64, Sz64, Nn64, Hs64, Gs64⟩ := id V63
            obtain ⟨T64, h64, X64, e64, W64, st64⟩ := stI X63 hx hZ e63 Ar64 (j := (0 : Int32)) (inb_of Sz64 ⟨(by decide : ¬ ((0 : Int32) < (0 : Int32))), (by decide : (0 : Int32) < (5 : Int32))⟩) (g := (mkF m 269 #[.val (.int u0), .val (.int u1), .val (.int u2), .val (.int u3), .val (.int u4), .val (.int (5 : Int32)), .val (.int (1 : Int32)), .val (.int l1), .val (.int k2), .val (.int l2), .val (.int k3), .val (.int l3), .val (.int k4), .val (.int l4), .val (.int k5), .unset, .unset] [(.int (0 : Int32)), (.int (0 : Int32)), (.ref b63), (.ref b63)])) rfl rfl (hb hby at_269)
            refine own_st st64 ?_
            have V64 := Arv.set Ar64 Kd64 Sz64 Nn64 Hs64 Gs64 rfl W64 0 rfl (Nat.le_of_ble_eq_true rfl)
            have V64' : Arv Z h64 b63 k63 .int (5 : Int32) [(.int (0 : Int32)), (.int (0 : Int32)), (.int (0 : Int32)), (.int (0 : Int32)), (.int (0 : Int32))] (.int (0 : Int32)) := V64
            have Z64 : n0 ≤ h64.size := Nat.le_trans Z63 (Nat.le_of_eq W64.size.symm)
            have N64 := Fr.snoc X64 N0 gnb63
            have K64 : Keep h0 h64 [] := K63.wr W64 (Or.inr gkb63)
            show own_Go _ _ _ _ (T64.setTop (mkF m 270 #[.val (.int u0), .val (.int u1), .val (.int u2), .val (.int u3), .val (.int u4), .val (.int (5 : Int32)), .val (.int (1 : Int32)), .val (.int l1), .val (.int k2), .val (.int l2), .val (.int k3), .val (.int l3), .val (.int k4), .val (.int l4), .val (.int k5), .unset, .unset] [(.ref b63)]))
            refine own_st (fun _ k => XS.dup X64.here hx rfl (hb hby at_270) rfl rfl k) ?_
            show own_Go _ _ _ _ (T64.setTop (mkF m 271 #[.val (.int u0), .val (.int u1), .val (.int u2), .val (.int u3), .val (.int u4), .val (.int (5 : Int32)), .val (.int (1 : Int32)), .val (.int l1), .val (.int k2), .val (.int l2), .val (.int k3), .val (.int l3), .val (.int k4), .val (.int l4), .val (.int k5), .unset, .unset] [(.ref b63), (.ref b63)]))
            refine own_st (fun _ k => XS.iconst X64.here hx rfl (hb hby at_271) k) ?_
            show own_Go _ _ _ _ (T64.setTop (mkF m 272 #[.val (.int u0), .val (.int u1), .val (.int u2), .val (.int u3), .val (.int u4), .val (.int (5 : Int32)), .val (.int (1 : Int32)), .val (.int l1), .val (.int k2), .val (.int l2), .val (.int k3), .val (.int l3), .val (.int k4), .val (.int l4), .val (.int k5), .unset, .unset] [(.int (1 : Int32)), (.ref b63), (.ref b63)]))
            refine own_st (fun _ k => XS.iload X64.here hx rfl (hb hby at_272) rfl k) ?_
            show own_Go _ _ _ _ (T64.setTop (mkF m 274 #[.val (.int u0), .val (.int u1), .val (.int u2), .val (.int u3), .val (.int u4), .val (.int (5 : Int32)), .val (.int (1 : Int32)), .val (.int l1), .val (.int k2), .val (.int l2), .val (.int k3), .val (.int l3), .val (.int k4), .val (.int l4), .val (.int k5), .unset, .unset] [(.int l1), (.int (1 : Int32)), (.ref b63), (.ref b63)]))
            obtain ⟨cl65, Ar65, Kd65, Sz65, Nn65, Hs65, Gs65⟩ := id V64'
            obtain ⟨T65, h65, X65, e65, W65, st65⟩ := stI X64 hx hZ e64 Ar65 (j := (1 : Int32)) (inb_of Sz65 ⟨(by decide : ¬ ((1 : Int32) < (0 : Int32))), (by decide : (1 : Int32) < (5 : Int32))⟩) (g := (mkF m 274 #[.val (.int u0), .val (.int u1), .val (.int u2), .val (.int u3), .val (.int u4), .val (.int (5 : Int32)), .val (.int (1 : Int32)), .val (.int l1), .val (.int k2), .val (.int l2), .val (.int k3), .val (.int l3), .val (.int k4), .val (.int l4), .val (.int k5), .unset, .unset] [(.int l1), (.int (1 : Int32)), (.ref b63), (.ref b63)])) rfl rfl (hb hby at_274)
            refine own_st st65 ?_
            have V65 := Arv.set Ar65 Kd65 Sz65 Nn65 Hs65 Gs65 rfl W65 1 rfl (Nat.le_of_ble_eq_true rfl)
            have V65' : Arv Z h65 b63 k63 .int (5 : Int32) [(.int (0 : Int32)), (.int l1), (.int (0 : Int32)), (.int (0 : Int32)), (.int (0 : Int32))] (.int (0 : Int32)) := V65
            have Z65 : n0 ≤ h65.size := Nat.le_trans Z64 (Nat.le_of_eq W65.size.symm)
            have N65 := Fr.snoc X65 N64 gnb63
            have K65 : Keep h0 h65 [] := K64.wr W65 (Or.inr gkb63)
            show own_Go _ _ _ _ (T65.setTop (mkF m 275 #[.val (.int u0), .val (.int u1), .val (.int u2), .val (.int u3), .val (.int u4), .val (.int (5 : Int32)), .val (.int (1 : Int32)), .val (.int l1), .val (.int k2), .val (.int l2), .val (.int k3), .val (.int l3), .val (.int k4), .val (.int l4), .val (.int k5), .unset, .unset] [(.ref b63)]))
            refine own_st (fun _ k => XS.dup X65.here hx rfl (hb hby at_275) rfl rfl k) ?_
            show own_Go _ _ _ _ (T65.setTop (mkF m 276 #[.val (.int u0), .val (.int u1), .val (.int u2), .val (.int u3), .val (.int u4), .val (.int (5 : Int32)), .val (.int (1 : Int32)), .val (.int l1), .val (.int k2), .val (.int l2), .val (.int k3), .val (.int l3), .val (.int k4), .val (.int l4), .val (.int k5), .unset, .unset] [(.ref b63), (.ref b63)]))
            refine own_st (fun _ k => XS.iconst X65.here hx rfl (hb hby at_276) k) ?_
            show own_Go _ _ _ _ (T65.setTop (mkF m 277 #[.val (.int u0), .val (.int u1), .val (.int u2), .val (.int u3), .val (.int u4), .val (.int (5 : Int32)), .val (.int (1 : Int32)), .val (.int l1), .val (.int k2), .val (.int l2), .val (.int k3), .val (.int l3), .val (.int k4), .val (.int l4), .val (.int k5), .unset, .unset] [(.int (2 : Int32)), (.ref b63), (.ref b63)]))
            refine own_st (fun _ k => XS.iload X65.here hx rfl (hb hby at_277) rfl k) ?_
            show own_Go _ _ _ _ (T65.setTop (mkF m 279 #[.val (.int u0), .val (.int u1), .val (.int u2), .val (.int u3), .val (.int u4), .val (.int (5 : Int32)), .val (.int (1 : Int32)), .val (.int l1), .val (.int k2), .val (.int l2), .val (.int k3), .val (.int l3), .val (.int k4), .val (.int l4), .val (.int k5), .unset, .unset] [(.int l2), (.int (2 : Int32)), (.ref b63), (.ref b63)]))
            obtain ⟨cl66, Ar66, Kd66, Sz66, Nn66, Hs66, Gs66⟩ := id V65'
            obtain ⟨T66, h66, X66, e66, W66, st66⟩ := stI X65 hx hZ e65 Ar66 (j := (2 : Int32)) (inb_of Sz66 ⟨(by decide : ¬ ((2 : Int32) < (0 : Int32))), (by decide : (2 : Int32) < (5 : Int32))⟩) (g := (mkF m 279 #[.val (.int u0), .val (.int u1), .val (.int u2), .val (.int u3), .val (.int u4), .val (.int (5 : Int32)), .val (.int (1 : Int32)), .val (.int l1), .val (.int k2), .val (.int l2), .val (.int k3), .val (.int l3), .val (.int k4), .val (.int l4), .val (.int k5), .unset, .unset] [(.int l2), (.int (2 : Int32)), (.ref b63), (.ref b63)])) rfl rfl (hb hby at_279)
            refine own_st st66 ?_
            have V66 := Arv.set Ar66 Kd66 Sz66 Nn66 Hs66 Gs66 rfl W66 2 rfl (Nat.le_of_ble_eq_true rfl)
            have V66' : Arv Z h66 b63 k63 .int (5 : Int32) [(.int (0 : Int32)), (.int l1), (.int l2), (.int (0 : Int32)), (.int (0 : Int32))] (.int (0 : Int32)) := V66
            have Z66 : n0 ≤ h66.size := Nat.le_trans Z65 (Nat.le_of_eq W66.size.symm)
            have N66 := Fr.snoc X66 N65 gnb63
            have K66 : Keep h0 h66 [] := K65.wr W66 (Or.inr gkb63)
            show own_Go _ _ _ _ (T66.setTop (mkF m 280 #[.val (.int u0), .val (.int u1), .val (.int u2), .val (.int u3), .val (.int u4), .val (.int (5 : Int32)), .val (.int (1 : Int32)), .val (.int l1), .val (.int k2), .val (.int l2), .val (.int k3), .val (.int l3), .val (.int k4), .val (.int l4), .val (.int k5), .unset, .unset] [(.ref b63)]))
            refine own_st (fun _ k => XS.dup X66.here hx rfl (hb hby at_280) rfl rfl k) ?_
            show own_Go _ _ _ _ (T66.setTop (mkF m 281 #[.val (.int u0), .val (.int u1), .val (.int u2), .val (.int u3), .val (.int u4), .val (.int (5 : Int32)), .val (.int (1 : Int32)), .val (.int l1), .val (.int k2), .val (.int l2), .val (.int k3), .val (.int l3), .val (.int k4), .val (.int l4), .val (.int k5), .unset, .unset] [(.ref b63), (.ref b63)]))
            refine own_st (fun _ k => XS.iconst X66.here hx rfl (hb hby at_281) k) ?_
            show own_Go _ _ _ _ (T66.setTop (mkF m 282 #[.val (.int u0), .val (.int u1), .val (.int u2), .val (.int u3), .val (.int u4), .val (.int (5 : Int32)), .val (.int (1 : Int32)), .val (.int l1), .val (.int k2), .val (.int l2), .val (.int k3), .val (.int l3), .val (.int k4), .val (.int l4), .val (.int k5), .unset, .unset] [(.int (3 : Int32)), (.ref b63), (.ref b63)]))
            refine own_st (fun _ k => XS.iload X66.here hx rfl (hb hby at_282) rfl k) ?_
            show own_Go _ _ _ _ (T66.setTop (mkF m 284 #[.val (.int u0), .val (.int u1), .val (.int u2), .val (.int u3), .val (.int u4), .val (.int (5 : Int32)), .val (.int (1 : Int32)), .val (.int l1), .val (.int k2), .val (.int l2), .val (.int k3), .val (.int l3), .val (.int k4), .val (.int l4), .val (.int k5), .unset, .unset] [(.int l3), (.int (3 : Int32)), (.ref b63), (.ref b63)]))
            obtain ⟨cl67, Ar67, Kd67, Sz67, Nn67, Hs67, Gs67⟩ := id V66'
            obtain ⟨T67, h67, X67, e67, W67, st67⟩ := stI X66 hx hZ e66 Ar67 (j := (3 : Int32)) (inb_of Sz67 ⟨(by decide : ¬ ((3 : Int32) < (0 : Int32))), (by decide : (3 : Int32) < (5 : Int32))⟩) (g := (mkF m 284 #[.val (.int u0), .val (.int u1), .val (.int u2), .val (.int u3), .val (.int u4), .val (.int (5 : Int32)), .val (.int (1 : Int32)), .val (.int l1), .val (.int k2), .val (.int l2), .val (.int k3), .val (.int l3), .val (.int k4), .val (.int l4), .val (.int k5), .unset, .unset] [(.int l3), (.int (3 : Int32)), (.ref b63), (.ref b63)])) rfl rfl (hb hby at_284)
            refine own_st st67 ?_
            have V67 := Arv.set Ar67 Kd67 Sz67 Nn67 Hs67 Gs67 rfl W67 3 rfl (Nat.le_of_ble_eq_true rfl)
            have V67' : Arv Z h67 b63 k63 .int (5 : Int32) [(.int (0 : Int32)), (.int l1), (.int l2), (.int l3), (.int (0 : Int32))] (.int (0 : Int32)) := V67
            have Z67 : n0 ≤ h67.size := Nat.le_trans Z66 (Nat.le_of_eq W67.size.symm)
            have N67 := Fr.snoc X67 N66 gnb63
            have K67 : Keep h0 h67 [] := K66.wr W67 (Or.inr gkb63)
            show own_Go _ _ _ _ (T67.setTop (mkF m 285 #[.val (.int u0), .val (.int u1), .val (.int u2), .val (.int u3), .val (.int u4), .val (.int (5 : Int32)), .val (.int (1 : Int32)), .val (.int l1), .val (.int k2), .val (.int l2), .val (.int k3), .val (.int l3), .val (.int k4), .val (.int l4), .val (.int k5), .unset, .unset] [(.ref b63)]))
            refine own_st (fun _ k => XS.dup X67.here hx rfl (hb hby at_285) rfl rfl k) ?_
            show own_Go _ _ _ _ (T67.setTop (mkF m 286 #[.val (.int u0), .val (.int u1), .val (.int u2), .val (.int u3), .val (.int u4), .val (.int (5 : Int32)), .val (.int (1 : Int32)), .val (.int l1), .val (.int k2), .val (.int l2), .val (.int k3), .val (.int l3), .val (.int k4), .val (.int l4), .val (.int k5), .unset, .unset] [(.ref b63), (.ref b63)]))
            refine own_st (fun _ k => XS.iconst X67.here hx rfl (hb hby at_286) k) ?_
            show own_Go _ _ _ _ (T67.setTop (mkF m 287 #[.val (.int u0), .val (.int u1), .val (.int u2), .val (.int u3), .val (.int u4), .val (.int (5 : Int32)), .val (.int (1 : Int32)), .val (.int l1), .val (.int k2), .val (.int l2), .val (.int k3), .val (.int l3), .val (.int k4), .val (.int l4), .val (.int k5), .unset, .unset] [(.int (4 : Int32)), (.ref b63), (.ref b63)]))
            refine own_st (fun _ k => XS.iload X67.here hx rfl (hb hby at_287) rfl k) ?_
            show own_Go _ _ _ _ (T67.setTop (mkF m 289 #[.val (.int u0), .val (.int u1), .val (.int u2), .val (.int u3), .val (.int u4), .val (.int (5 : Int32)), .val (.int (1 : Int32)), .val (.int l1), .val (.int k2), .val (.int l2), .val (.int k3), .val (.int l3), .val (.int k4), .val (.int l4), .val (.int k5), .unset, .unset] [(.int l4), (.int (4 : Int32)), (.ref b63), (.ref b63)]))
            obtain ⟨cl68, Ar68, Kd68, Sz68, Nn68, Hs68, Gs68⟩ := id V67'
            obtain ⟨T68, h68, X68, e68, W68, st68⟩ := stI X67 hx hZ e67 Ar68 (j := (4 : Int32)) (inb_of Sz68 ⟨(by decide : ¬ ((4 : Int32) < (0 : Int32))), (by decide : (4 : Int32) < (5 : Int32))⟩) (g := (mkF m 289 #[.val (.int u0), .val (.int u1), .val (.int u2), .val (.int u3), .val (.int u4), .val (.int (5 : Int32)), .val (.int (1 : Int32)), .val (.int l1), .val (.int k2), .val (.int l2), .val (.int k3), .val (.int l3), .val (.int k4), .val (.int l4), .val (.int k5), .unset, .unset] [(.int l4), (.int (4 : Int32)), (.ref b63), (.ref b63)])) rfl rfl (hb hby at_289)
            refine own_st st68 ?_
            have V68 := Arv.set Ar68 Kd68 Sz68 Nn68 Hs68 Gs68 rfl W68 4 rfl (Nat.le_of_ble_eq_true rfl)
            have V68' : Arv Z h68 b63 k63 .int (5 : Int32) [(.int (0 : Int32)), (.int l1), (.int l2), (.int l3), (.int l4)] (.int (0 : Int32)) := V68
            have Z68 : n0 ≤ h68.size := Nat.le_trans Z67 (Nat.le_of_eq W68.size.symm)
            have N68 := Fr.snoc X68 N67 gnb63
            have K68 : Keep h0 h68 [] := K67.wr W68 (Or.inr gkb63)
            show own_Go _ _ _ _ (T68.setTop (mkF m 290 #[.val (.int u0), .val (.int u1), .val (.int u2), .val (.int u3), .val (.int u4), .val (.int (5 : Int32)), .val (.int (1 : Int32)), .val (.int l1), .val (.int k2), .val (.int l2), .val (.int k3), .val (.int l3), .val (.int k4), .val (.int l4), .val (.int k5), .unset, .unset] [(.ref b63)]))
            refine own_st (fun _ k => XS.astore X68.here hx rfl (hb hby at_290) rfl rfl (l' := #[.val (.int u0), .val (.int u1), .val (.int u2), .val (.int u3), .val (.int u4), .val (.int (5 : Int32)), .val (.int (1 : Int32)), .val (.int l1), .val (.int k2), .val (.int l2), .val (.int k3), .val (.int l3), .val (.int k4), .val (.int l4), .val (.int k5), .val (.ref b63), .unset]) rfl k) ?_
            show own_Go _ _ _ _ (T68.setTop (mkF m 292 #[.val (.int u0), .val (.int u1), .val (.int u2), .val (.int u3), .val (.int u4), .val (.int (5 : Int32)), .val (.int (1 : Int32)), .val (.int l1), .val (.int k2), .val (.int l2), .val (.int k3), .val (.int l3), .val (.int k4), .val (.int l4), .val (.int k5), .val (.ref b63), .unset] []))
            refine own_st (fun _ k => XS.iload X68.here hx rfl (hb hby at_292) rfl k) ?_
            show own_Go _ _ _ _ (T68.setTop (mkF m 294 #[.val (.int u0), .val (.int u1), .val (.int u2), .val (.int u3), .val (.int u4), .val (.int (5 : Int32)), .val (.int (1 : Int32)), .val (.int l1), .val (.int k2), .val (.int l2), .val (.int k3), .val (.int l3), .val (.int k4), .val (.int l4), .val (.int k5), .val (.ref b63), .unset] [(.int k5)]))
            refine own_st (fun _ k => XS.istore X68.here hx rfl (hb hby at_294) rfl (l' := #[.val (.int u0), .val (.int u1), .val (.int u2), .val (.int u3), .val (.int u4), .val (.int (5 : Int32)), .val (.int (1 : Int32)), .val (.int l1), .val (.int k2), .val (.int l2), .val (.int k3), .val (.int l3), .val (.int k4), .val (.int l4), .val (.int k5), .val (.ref b63), .val (.int k5)]) rfl k) ?_
            show own_Go _ _ _ _ (T68.setTop (mkF m 296 #[.val (.int u0), .val (.int u1), .val (.int u2), .val (.int u3), .val (.int u4), .val (.int (5 : Int32)), .val (.int (1 : Int32)), .val (.int l1), .val (.int k2), .val (.int l2), .val (.int k3), .val (.int l3), .val (.int k4), .val (.int l4), .val (.int k5), .val (.ref b63), .val (.int k5)] []))
            refine own_st (fun _ k => XS.aload X68.here hx rfl (hb hby at_296) rfl rfl k) ?_
            show own_Go _ _ _ _ (T68.setTop (mkF m 298 #[.val (.int u0), .val (.int u1), .val (.int u2), .val (.int u3), .val (.int u4), .val (.int (5 : Int32)), .val (.int (1 : Int32)), .val (.int l1), .val (.int k2), .val (.int l2), .val (.int k3), .val (.int l3), .val (.int k4), .val (.int l4), .val (.int k5), .val (.ref b63), .val (.int k5)] [(.ref b63)]))
            obtain ⟨_, _, ⟨T69, L69, k69, n69⟩, -, X69, ⟨Lc69, hQ69, l69, y69, z69⟩, st69⟩ := Jvm.LawKit.callS X68 hx (y := (⟨"com/example/barred_owl/barredowl/Embedding", "componentCount", "([I)I"⟩ : MethodName)) hown (mvT hZ (hw _ (List.mem_of_getElem? (i := 2) rfl))) (mvT hZ (hw _ (List.mem_of_getElem? (i := 3) rfl))) (mvT hZ (hw _ (List.mem_of_getElem? (i := 4) rfl))) (mvT hZ (hw _ (List.mem_of_getElem? (i := 5) rfl))) (by decide) (backOf (W := 0) (rm1_5 l Z a0 hw [] b63 k63 (0 : Int32) l1 l2 l3 l4 h68 n0 Z68 V68') hZ (hw _ (List.mem_of_getElem? (i := 5) rfl)) (hw _ (List.mem_of_getElem? (i := 4) rfl)) (by decide) (by decide)) (g := (mkF m 298 #[.val (.int u0), .val (.int u1), .val (.int u2), .val (.int u3), .val (.int u4), .val (.int (5 : Int32)), .val (.int (1 : Int32)), .val (.int l1), .val (.int k2), .val (.int l2), .val (.int k3), .val (.int l3), .val (.int k4), .val (.int l4), .val (.int k5), .val (.ref b63), .val (.int k5)] [(.ref b63)])) rfl (by rw [hml]; rfl) (argsL := [(.ref b63)]) (rest := []) (lenOf own_pd1 rfl) rfl (by show 2 * 0 + _ ≤ _; exact Nat.le_of_eq rfl) (hb hby at_298) (fun _ _ => ⟨rfl, e68, (by decide : 1 + 0 ≤ _), (by decide : 5 + 0 ≤ _)⟩)
            dsimp only [Pt.U, Pt.locs, Pt.cells, Pt.slots] at X69 l69 y69 z69 st69 hQ69
            subst l69 y69 z69
            obtain ⟨rfl, Nq69, eq69⟩ := hQ69
            have N69 := Fr.app N68 Nq69
            refine own_st st69 ?_
            show own_Go _ _ _ _ (T69.setTop (mkF m 301 #[.val (.int u0), .val (.int u1), .val (.int u2), .val (.int u3), .val (.int u4), .val (.int (5 : Int32)), .val (.int (1 : Int32)), .val (.int l1), .val (.int k2), .val (.int l2), .val (.int k3), .val (.int l3), .val (.int k4), .val (.int l4), .val (.int k5), .val (.ref b63), .val (.int k5)] [(.int (own_cc5 (0 : Int32) l1 l2 l3 l4))]))
            refine own_st (fun _ k => XS.iload X69.here hx rfl (hb hby at_301) rfl k) ?_
            show own_Go _ _ _ _ (T69.setTop (mkF m 303 #[.val (.int u0), .val (.int u1), .val (.int u2), .val (.int u3), .val (.int u4), .val (.int (5 : Int32)), .val (.int (1 : Int32)), .val (.int l1), .val (.int k2), .val (.int l2), .val (.int k3), .val (.int l3), .val (.int k4), .val (.int l4), .val (.int k5), .val (.ref b63), .val (.int k5)] [(.int k5), (.int (own_cc5 (0 : Int32) l1 l2 l3 l4))]))
            refine own_st (fun _ k => XS.icmpNo X69.here hx rfl (hb hby at_303) rfl (teq (by
                unfold own_cc5
                have z0 := hJ0; have z1 := hJ1; have z2 := hJ2; have z3 := hJ3
                unfold own_J at z0 z1 z2 z3
                dsimp only at z0 z1 z2 z3
                simp only [Int32.reduceToInt] at z0 z1 z2 z3
                have y0 : ((0 : Int32) + (1 : Int32)).toInt = 1 := by decide
                have y1 := own_up l1 (by omega); have y2 := own_up l2 (by omega); have y3 := own_up l3 (by omega); have y4 := own_up l4 (by omega)
                simp only [← Int32.toInt_inj, own_mxi, Int32.reduceToInt, y0, y1, y2, y3, y4]
                (repeat' split) <;> omega)).2 k) ?_
            show own_Go _ _ _ _ (T69.setTop (mkF m 306 #[.val (.int u0), .val (.int u1), .val (.int u2), .val (.int u3), .val (.int u4), .val (.int (5 : Int32)), .val (.int (1 : Int32)), .val (.int l1), .val (.int k2), .val (.int l2), .val (.int k3), .val (.int l3), .val (.int k4), .val (.int l4), .val (.int k5), .val (.ref b63), .val (.int k5)] []))
            refine own_st (fun _ k => XS.iconst X69.here hx rfl (hb hby at_306) k) ?_
            show own_Go _ _ _ _ (T69.setTop (mkF m 307 #[.val (.int u0), .val (.int u1), .val (.int u2), .val (.int u3), .val (.int u4), .val (.int (5 : Int32)), .val (.int (1 : Int32)), .val (.int l1), .val (.int k2), .val (.int l2), .val (.int k3), .val (.int l3), .val (.int k4), .val (.int l4), .val (.int k5), .val (.ref b63), .val (.int k5)] [(.int (1 : Int32))]))
            refine own_st (fun _ k => XS.goto X69.here hx rfl (pc0 := 307) (pc' := 311) rfl (hb hby at_307) (by decide) (by decide) k) ?_
            show own_Go _ _ _ _ (T69.setTop (mkF m 311 #[.val (.int u0), .val (.int u1), .val (.int u2), .val (.int u3), .val (.int u4), .val (.int (5 : Int32)), .val (.int (1 : Int32)), .val (.int l1), .val (.int k2), .val (.int l2), .val (.int k3), .val (.int l3), .val (.int k4), .val (.int l4), .val (.int k5), .val (.ref b63), .val (.int k5)] [(.int (1 : Int32))]))
            obtain ⟨fs, hr, hrun, hended, hW, hsame⟩ := X69.leave (v := some (.int (1 : Int32))) (fun h => by rw [Bd.returns] at h; cases h)
            refine own_out (retN X69 hx (t := .boolean) Bd.returns (by simp) (hb hby at_311) hr) ⟨hrun, hended, _, _, rfl, ?_, ⟨_, rfl⟩, hW, hsame.mono (by decide) (by decide)⟩
            show Q0 Z u0 u1 u2 u3 u4 h0 n0 _ T69.heap _
            exact ⟨rfl, N69⟩
        · intro J41
          show own_Go _ _ _ _ (s₁.setTop (mkF m 111 #[.val (.int u0), .val (.int u1), .val (.int u2), .val (.int u3), .val (.int u4), .val (.int ((u0 &&& (2147483647 : Int32)) - ((u0 &&& (2147483647 : Int32)) / (6 : Int32)) * (6 : Int32))), .val (.int (1 : Int32)), .val (.int l1), .val (.int k2), .val (.int l2), .val (.int k3), .val (.int l3), .val (.int k4), .val (.int ((u4 &&& (2147483647 : Int32)) - ((u4 &&& (2147483647 : Int32)) / (k4 + (1 : Int32))) * (k4 + (1 : Int32)))), .unset, .unset, .unset] []))
          refine own_st (fun _ k => XS.iload X0.here hx rfl (hb hby at_111) rfl k) ?_
          show own_Go _ _ _ _ (s₁.setTop (mkF m 113 #[.val (.int u0), .val (.int u1), .val (.int u2), .val (.int u3), .val (.int u4), .val (.int ((u0 &&& (2147483647 : Int32)) - ((u0 &&& (2147483647 : Int32)) / (6 : Int32)) * (6 : Int32))), .val (.int (1 : Int32)), .val (.int l1), .val (.int k2), .val (.int l2), .val (.int k3), .val (.int l3), .val (.int k4), .val (.int ((u4 &&& (2147483647 : Int32)) - ((u4 &&& (2147483647 : Int32)) / (k4 + (1 : Int32))) * (k4 + (1 : Int32)))), .unset, .unset, .unset] [(.int ((u4 &&& (2147483647 : Int32)) - ((u4 &&& (2147483647 : Int32)) / (k4 + (1 : Int32))) * (k4 + (1 : Int32))))]))
          refine own_st (fun _ k => XS.iload X0.here hx rfl (hb hby at_113) rfl k) ?_
          show own_Go _ _ _ _ (s₁.setTop (mkF m 115 #[.val (.int u0), .val (.int u1), .val (.int u2), .val (.int u3), .val (.int u4), .val (.int ((u0 &&& (2147483647 : Int32)) - ((u0 &&& (2147483647 : Int32)) / (6 : Int32)) * (6 : Int32))), .val (.int (1 : Int32)), .val (.int l1), .val (.int k2), .val (.int l2), .val (.int k3), .val (.int l3), .val (.int k4), .val (.int ((u4 &&& (2147483647 : Int32)) - ((u4 &&& (2147483647 : Int32)) / (k4 + (1 : Int32))) * (k4 + (1 : Int32)))), .unset, .unset, .unset] [(.int k4), (.int ((u4 &&& (2147483647 : Int32)) - ((u4 &&& (2147483647 : Int32)) / (k4 + (1 : Int32))) * (k4 + (1 : Int32))))]))
          by_cases hc70 : ((u4 &&& (2147483647 : Int32)) - ((u4 &&& (2147483647 : Int32)) / (k4 + (1 : Int32))) * (k4 + (1 : Int32))) = k4
          · skip
            refine own_st (fun _ k => XS.icmpNo X0.here hx rfl (hb hby at_115) rfl (teq hc70).2 k) ?_
            show own_Go _ _ _ _ (s₁.setTop (mkF m 118 #[.val (.int u0), .val (.int u1), .val (.int u2), .val (.int u3), .val (.int u4), .val (.int ((u0 &&& (2147483647 : Int32)) - ((u0 &&& (2147483647 : Int32)) / (6 : Int32)) * (6 : Int32))), .val (.int (1 : Int32)), .val (.int l1), .val (.int k2), .val (.int l2), .val (.int k3), .val (.int l3), .val (.int k4), .val (.int ((u4 &&& (2147483647 : Int32)) - ((u4 &&& (2147483647 : Int32)) / (k4 + (1 : Int32))) * (k4 + (1 : Int32)))), .unset, .unset, .unset] []))
            refine own_st (fun _ k => XS.iload X0.here hx rfl (hb hby at_118) rfl k) ?_
            show own_Go _ _ _ _ (s₁.setTop (mkF m 120 #[.val (.int u0), .val (.int u1), .val (.int u2), .val (.int u3), .val (.int u4), .val (.int ((u0 &&& (2147483647 : Int32)) - ((u0 &&& (2147483647 : Int32)) / (6 : Int32)) * (6 : Int32))), .val (.int (1 : Int32)), .val (.int l1), .val (.int k2), .val (.int l2), .val (.int k3), .val (.int l3), .val (.int k4), .val (.int ((u4 &&& (2147483647 : Int32)) - ((u4 &&& (2147483647 : Int32)) / (k4 + (1 : Int32))) * (k4 + (1 : Int32)))), .unset, .unset, .unset] [(.int k4)]))
            refine own_st (fun _ k => XS.iconst X0.here hx rfl (hb hby at_120) k) ?_
            show own_Go _ _ _ _ (s₁.setTop (mkF m 121 #[.val (.int u0), .val (.int u1), .val (.int u2), .val (.int u3), .val (.int u4), .val (.int ((u0 &&& (2147483647 : Int32)) - ((u0 &&& (2147483647 : Int32)) / (6 : Int32)) * (6 : Int32))), .val (.int (1 : Int32)), .val (.int l1), .val (.int k2), .val (.int l2), .val (.int k3), .val (.int l3), .val (.int k4), .val (.int ((u4 &&& (2147483647 : Int32)) - ((u4 &&& (2147483647 : Int32)) / (k4 + (1 : Int32))) * (k4 + (1 : Int32)))), .unset, .unset, .unset] [(.int (1 : Int32)), (.int k4)]))
            refine own_st (fun _ k => XS.iadd X0.here hx rfl (hb hby at_121) rfl k) ?_
            show own_Go _ _ _ _ (s₁.setTop (mkF m 122 #[.val (.int u0), .val (.int u1), .val (.int u2), .val (.int u3), .val (.int u4), .val (.int ((u0 &&& (2147483647 : Int32)) - ((u0 &&& (2147483647 : Int32)) / (6 : Int32)) * (6 : Int32))), .val (.int (1 : Int32)), .val (.int l1), .val (.int k2), .val (.int l2), .val (.int k3), .val (.int l3), .val (.int k4), .val (.int ((u4 &&& (2147483647 : Int32)) - ((u4 &&& (2147483647 : Int32)) / (k4 + (1 : Int32))) * (k4 + (1 : Int32)))), .unset, .unset, .unset] [(.int (k4 + (1 : Int32)))]))
            refine own_st (fun _ k => XS.goto X0.here hx rfl (pc0 := 122) (pc' := 127) rfl (hb hby at_122) (by decide) (by decide) k) ?_
            show own_Go _ _ _ _ (s₁.setTop (mkF m 127 #[.val (.int u0), .val (.int u1), .val (.int u2), .val (.int u3), .val (.int u4), .val (.int ((u0 &&& (2147483647 : Int32)) - ((u0 &&& (2147483647 : Int32)) / (6 : Int32)) * (6 : Int32))), .val (.int (1 : Int32)), .val (.int l1), .val (.int k2), .val (.int l2), .val (.int k3), .val (.int l3), .val (.int k4), .val (.int ((u4 &&& (2147483647 : Int32)) - ((u4 &&& (2147483647 : Int32)) / (k4 + (1 : Int32))) * (k4 + (1 : Int32)))), .unset, .unset, .unset] [(.int (k4 + (1 : Int32)))]))
            refine own_st (fun _ k => XS.istore X0.here hx rfl (hb hby at_127) rfl (l' := #[.val (.int u0), .val (.int u1), .val (.int u2), .val (.int u3), .val (.int u4), .val (.int ((u0 &&& (2147483647 : Int32)) - ((u0 &&& (2147483647 : Int32)) / (6 : Int32)) * (6 : Int32))), .val (.int (1 : Int32)), .val (.int l1), .val (.int k2), .val (.int l2), .val (.int k3), .val (.int l3), .val (.int k4), .val (.int ((u4 &&& (2147483647 : Int32)) - ((u4 &&& (2147483647 : Int32)) / (k4 + (1 : Int32))) * (k4 + (1 : Int32)))), .val (.int (k4 + (1 : Int32))), .unset, .unset]) rfl k) ?_
            show own_Go _ _ _ _ (s₁.setTop (mkF m 129 #[.val (.int u0), .val (.int u1), .val (.int u2), .val (.int u3), .val (.int u4), .val (.int ((u0 &&& (2147483647 : Int32)) - ((u0 &&& (2147483647 : Int32)) / (6 : Int32)) * (6 : Int32))), .val (.int (1 : Int32)), .val (.int l1), .val (.int k2), .val (.int l2), .val (.int k3), .val (.int l3), .val (.int k4), .val (.int ((u4 &&& (2147483647 : Int32)) - ((u4 &&& (2147483647 : Int32)) / (k4 + (1 : Int32))) * (k4 + (1 : Int32)))), .val (.int (k4 + (1 : Int32))), .unset, .unset] []))
            exact J41 (((u4 &&& (2147483647 : Int32)) - ((u4 &&& (2147483647 : Int32)) / (k4 + (1 : Int32))) * (k4 + (1 : Int32))), (k4 + (1 : Int32))) (own_Jy _ _ (by omega) hl3 hc70)
          · skip
            refine own_st (fun _ k => XS.icmpYes X0.here hx rfl (pc0 := 115) (pc' := 125) rfl (hb hby at_115) rfl (feq hc70).2 (by decide) (by decide) k) ?_
            show own_Go _ _ _ _ (s₁.setTop (mkF m 125 #[.val (.int u0), .val (.int u1), .val (.int u2), .val (.int u3), .val (.int u4), .val (.int ((u0 &&& (2147483647 : Int32)) - ((u0 &&& (2147483647 : Int32)) / (6 : Int32)) * (6 : Int32))), .val (.int (1 : Int32)), .val (.int l1), .val (.int k2), .val (.int l2), .val (.int k3), .val (.int l3), .val (.int k4), .val (.int ((u4 &&& (2147483647 : Int32)) - ((u4 &&& (2147483647 : Int32)) / (k4 + (1 : Int32))) * (k4 + (1 : Int32)))), .unset, .unset, .unset] []))
            refine own_st (fun _ k => XS.iload X0.here hx rfl (hb hby at_125) rfl k) ?_
            show own_Go _ _ _ _ (s₁.setTop (mkF m 127 #[.val (.int u0), .val (.int u1), .val (.int u2), .val (.int u3), .val (.int u4), .val (.int ((u0 &&& (2147483647 : Int32)) - ((u0 &&& (2147483647 : Int32)) / (6 : Int32)) * (6 : Int32))), .val (.int (1 : Int32)), .val (.int l1), .val (.int k2), .val (.int l2), .val (.int k3), .val (.int l3), .val (.int k4), .val (.int ((u4 &&& (2147483647 : Int32)) - ((u4 &&& (2147483647 : Int32)) / (k4 + (1 : Int32))) * (k4 + (1 : Int32)))), .unset, .unset, .unset] [(.int k4)]))
            refine own_st (fun _ k => XS.istore X0.here hx rfl (hb hby at_127) rfl (l' := #[.val (.int u0), .val (.int u1), .val (.int u2), .val (.int u3), .val (.int u4), .val (.int ((u0 &&& (2147483647 : Int32)) - ((u0 &&& (2147483647 : Int32)) / (6 : Int32)) * (6 : Int32))), .val (.int (1 : Int32)), .val (.int l1), .val (.int k2), .val (.int l2), .val (.int k3), .val (.int l3), .val (.int k4), .val (.int ((u4 &&& (2147483647 : Int32)) - ((u4 &&& (2147483647 : Int32)) / (k4 + (1 : Int32))) * (k4 + (1 : Int32)))), .val (.int k4), .unset, .unset]) rfl k) ?_
            show own_Go _ _ _ _ (s₁.setTop (mkF m 129 #[.val (.int u0), .val (.int u1), .val (.int u2), .val (.int u3), .val (.int u4), .val (.int ((u0 &&& (2147483647 : Int32)) - ((u0 &&& (2147483647 : Int32)) / (6 : Int32)) * (6 : Int32))), .val (.int (1 : Int32)), .val (.int l1), .val (.int k2), .val (.int l2), .val (.int k3), .val (.int l3), .val (.int k4), .val (.int ((u4 &&& (2147483647 : Int32)) - ((u4 &&& (2147483647 : Int32)) / (k4 + (1 : Int32))) * (k4 + (1 : Int32)))), .val (.int k4), .unset, .unset] []))
            exact J41 (((u4 &&& (2147483647 : Int32)) - ((u4 &&& (2147483647 : Int32)) / (k4 + (1 : Int32))) * (k4 + (1 : Int32))), k4) (own_Jn _ _ (by omega) hl3 hc70)
      · intro J40
        show own_Go _ _ _ _ (s₁.setTop (mkF m 81 #[.val (.int u0), .val (.int u1), .val (.int u2), .val (.int u3), .val (.int u4), .val (.int ((u0 &&& (2147483647 : Int32)) - ((u0 &&& (2147483647 : Int32)) / (6 : Int32)) * (6 : Int32))), .val (.int (1 : Int32)), .val (.int l1), .val (.int k2), .val (.int l2), .val (.int k3), .val (.int ((u3 &&& (2147483647 : Int32)) - ((u3 &&& (2147483647 : Int32)) / (k3 + (1 : Int32))) * (k3 + (1 : Int32)))), .unset, .unset, .unset, .unset, .unset] []))
        refine own_st (fun _ k => XS.iload X0.here hx rfl (hb hby at_81) rfl k) ?_
        show own_Go _ _ _ _ (s₁.setTop (mkF m 83 #[.val (.int u0), .val (.int u1), .val (.int u2), .val (.int u3), .val (.int u4), .val (.int ((u0 &&& (2147483647 : Int32)) - ((u0 &&& (2147483647 : Int32)) / (6 : Int32)) * (6 : Int32))), .val (.int (1 : Int32)), .val (.int l1), .val (.int k2), .val (.int l2), .val (.int k3), .val (.int ((u3 &&& (2147483647 : Int32)) - ((u3 &&& (2147483647 : Int32)) / (k3 + (1 : Int32))) * (k3 + (1 : Int32)))), .unset, .unset, .unset, .unset, .unset] [(.int ((u3 &&& (2147483647 : Int32)) - ((u3 &&& (2147483647 : Int32)) / (k3 + (1 : Int32))) * (k3 + (1 : Int32))))]))
        refine own_st (fun _ k => XS.iload X0.here hx rfl (hb hby at_83) rfl k) ?_
        show own_Go _ _ _ _ (s₁.setTop (mkF m 85 #[.val (.int u0), .val (.int u1), .val (.int u2), .val (.int u3), .val (.int u4), .val (.int ((u0 &&& (2147483647 : Int32)) - ((u0 &&& (2147483647 : Int32)) / (6 : Int32)) * (6 : Int32))), .val (.int (1 : Int32)), .val (.int l1), .val (.int k2), .val (.int l2), .val (.int k3), .val (.int ((u3 &&& (2147483647 : Int32)) - ((u3 &&& (2147483647 : Int32)) / (k3 + (1 : Int32))) * (k3 + (1 : Int32)))), .unset, .unset, .unset, .unset, .unset] [(.int k3), (.int ((u3 &&& (2147483647 : Int32)) - ((u3 &&& (2147483647 : Int32)) / (k3 + (1 : Int32))) * (k3 + (1 : Int32))))]))
        by_cases hc71 : ((u3 &&& (2147483647 : Int32)) - ((u3 &&& (2147483647 : Int32)) / (k3 + (1 : Int32))) * (k3 + (1 : Int32))) = k3
        · skip
          refine own_st (fun _ k => XS.icmpNo X0.here hx rfl (hb hby at_85) rfl (teq hc71).2 k) ?_
          show own_Go _ _ _ _ (s₁.setTop (mkF m 88 #[.val (.int u0), .val (.int u1), .val (.int u2), .val (.int u3), .val (.int u4), .val (.int ((u0 &&& (2147483647 : Int32)) - ((u0 &&& (2147483647 : Int32)) / (6 : Int32)) * (6 : Int32))), .val (.int (1 : Int32)), .val (.int l1), .val (.int k2), .val (.int l2), .val (.int k3), .val (.int ((u3 &&& (2147483647 : Int32)) - ((u3 &&& (2147483647 : Int32)) / (k3 + (1 : Int32))) * (k3 + (1 : Int32)))), .unset, .unset, .unset, .unset, .unset] []))
          refine own_st (fun _ k => XS.iload X0.here hx rfl (hb hby at_88) rfl k) ?_
          show own_Go _ _ _ _ (s₁.setTop (mkF m 90 #[.val (.int u0), .val (.int u1), .val (.int u2), .val (.int u3), .val (.int u4), .val (.int ((u0 &&& (2147483647 : Int32)) - ((u0 &&& (2147483647 : Int32)) / (6 : Int32)) * (6 : Int32))), .val (.int (1 : Int32)), .val (.int l1), .val (.int k2), .val (.int l2), .val (.int k3), .val (.int ((u3 &&& (2147483647 : Int32)) - ((u3 &&& (2147483647 : Int32)) / (k3 + (1 : Int32))) * (k3 + (1 : Int32)))), .unset, .unset, .unset, .unset, .unset] [(.int k3)]))
          refine own_st (fun _ k => XS.iconst X0.here hx rfl (hb hby at_90) k) ?_
          show own_Go _ _ _ _ (s₁.setTop (mkF m 91 #[.val (.int u0), .val (.int u1), .val (.int u2), .val (.int u3), .val (.int u4), .val (.int ((u0 &&& (2147483647 : Int32)) - ((u0 &&& (2147483647 : Int32)) / (6 : Int32)) * (6 : Int32))), .val (.int (1 : Int32)), .val (.int l1), .val (.int k2), .val (.int l2), .val (.int k3), .val (.int ((u3 &&& (2147483647 : Int32)) - ((u3 &&& (2147483647 : Int32)) / (k3 + (1 : Int32))) * (k3 + (1 : Int32)))), .unset, .unset, .unset, .unset, .unset] [(.int (1 : Int32)), (.int k3)]))
          refine own_st (fun _ k => XS.iadd X0.here hx rfl (hb hby at_91) rfl k) ?_
          show own_Go _ _ _ _ (s₁.setTop (mkF m 92 #[.val (.int u0), .val (.int u1), .val (.int u2), .val (.int u3), .val (.int u4), .val (.int ((u0 &&& (2147483647 : Int32)) - ((u0 &&& (2147483647 : Int32)) / (6 : Int32)) * (6 : Int32))), .val (.int (1 : Int32)), .val (.int l1), .val (.int k2), .val (.int l2), .val (.int k3), .val (.int ((u3 &&& (2147483647 : Int32)) - ((u3 &&& (2147483647 : Int32)) / (k3 + (1 : Int32))) * (k3 + (1 : Int32)))), .unset, .unset, .unset, .unset, .unset] [(.int (k3 + (1 : Int32)))]))
          refine own_st (fun _ k => XS.goto X0.here hx rfl (pc0 := 92) (pc' := 97) rfl (hb hby at_92) (by decide) (by decide) k) ?_
          show own_Go _ _ _ _ (s₁.setTop (mkF m 97 #[.val (.int u0), .val (.int u1), .val (.int u2), .val (.int u3), .val (.int u4), .val (.int ((u0 &&& (2147483647 : Int32)) - ((u0 &&& (2147483647 : Int32)) / (6 : Int32)) * (6 : Int32))), .val (.int (1 : Int32)), .val (.int l1), .val (.int k2), .val (.int l2), .val (.int k3), .val (.int ((u3 &&& (2147483647 : Int32)) - ((u3 &&& (2147483647 : Int32)) / (k3 + (1 : Int32))) * (k3 + (1 : Int32)))), .unset, .unset, .unset, .unset, .unset] [(.int (k3 + (1 : Int32)))]))
          refine own_st (fun _ k => XS.istore X0.here hx rfl (hb hby at_97) rfl (l' := #[.val (.int u0), .val (.int u1), .val (.int u2), .val (.int u3), .val (.int u4), .val (.int ((u0 &&& (2147483647 : Int32)) - ((u0 &&& (2147483647 : Int32)) / (6 : Int32)) * (6 : Int32))), .val (.int (1 : Int32)), .val (.int l1), .val (.int k2), .val (.int l2), .val (.int k3), .val (.int ((u3 &&& (2147483647 : Int32)) - ((u3 &&& (2147483647 : Int32)) / (k3 + (1 : Int32))) * (k3 + (1 : Int32)))), .val (.int (k3 + (1 : Int32))), .unset, .unset, .unset, .unset]) rfl k) ?_
          show own_Go _ _ _ _ (s₁.setTop (mkF m 99 #[.val (.int u0), .val (.int u1), .val (.int u2), .val (.int u3), .val (.int u4), .val (.int ((u0 &&& (2147483647 : Int32)) - ((u0 &&& (2147483647 : Int32)) / (6 : Int32)) * (6 : Int32))), .val (.int (1 : Int32)), .val (.int l1), .val (.int k2), .val (.int l2), .val (.int k3), .val (.int ((u3 &&& (2147483647 : Int32)) - ((u3 &&& (2147483647 : Int32)) / (k3 + (1 : Int32))) * (k3 + (1 : Int32)))), .val (.int (k3 + (1 : Int32))), .unset, .unset, .unset, .unset] []))
          exact J40 (((u3 &&& (2147483647 : Int32)) - ((u3 &&& (2147483647 : Int32)) / (k3 + (1 : Int32))) * (k3 + (1 : Int32))), (k3 + (1 : Int32))) (own_Jy _ _ (by omega) hl2 hc71)
        · skip
          refine own_st (fun _ k => XS.icmpYes X0.here hx rfl (pc0 := 85) (pc' := 95) rfl (hb hby at_85) rfl (feq hc71).2 (by decide) (by decide) k) ?_
          show own_Go _ _ _ _ (s₁.setTop (mkF m 95 #[.val (.int u0), .val (.int u1), .val (.int u2), .val (.int u3), .val (.int u4), .val (.int ((u0 &&& (2147483647 : Int32)) - ((u0 &&& (2147483647 : Int32)) / (6 : Int32)) * (6 : Int32))), .val (.int (1 : Int32)), .val (.int l1), .val (.int k2), .val (.int l2), .val (.int k3), .val (.int ((u3 &&& (2147483647 : Int32)) - ((u3 &&& (2147483647 : Int32)) / (k3 + (1 : Int32))) * (k3 + (1 : Int32)))), .unset, .unset, .unset, .unset, .unset] []))
          refine own_st (fun _ k => XS.iload X0.here hx rfl (hb hby at_95) rfl k) ?_
          show own_Go _ _ _ _ (s₁.setTop (mkF m 97 #[.val (.int u0), .val (.int u1), .val (.int u2), .val (.int u3), .val (.int u4), .val (.int ((u0 &&& (2147483647 : Int32)) - ((u0 &&& (2147483647 : Int32)) / (6 : Int32)) * (6 : Int32))), .val (.int (1 : Int32)), .val (.int l1), .val (.int k2), .val (.int l2), .val (.int k3), .val (.int ((u3 &&& (2147483647 : Int32)) - ((u3 &&& (2147483647 : Int32)) / (k3 + (1 : Int32))) * (k3 + (1 : Int32)))), .unset, .unset, .unset, .unset, .unset] [(.int k3)]))
          refine own_st (fun _ k => XS.istore X0.here hx rfl (hb hby at_97) rfl (l' := #[.val (.int u0), .val (.int u1), .val (.int u2), .val (.int u3), .val (.int u4), .val (.int ((u0 &&& (2147483647 : Int32)) - ((u0 &&& (2147483647 : Int32)) / (6 : Int32)) * (6 : Int32))), .val (.int (1 : Int32)), .val (.int l1), .val (.int k2), .val (.int l2), .val (.int k3), .val (.int ((u3 &&& (2147483647 : Int32)) - ((u3 &&& (2147483647 : Int32)) / (k3 + (1 : Int32))) * (k3 + (1 : Int32)))), .val (.int k3), .unset, .unset, .unset, .unset]) rfl k) ?_
          show own_Go _ _ _ _ (s₁.setTop (mkF m 99 #[.val (.int u0), .val (.int u1), .val (.int u2), .val (.int u3), .val (.int u4), .val (.int ((u0 &&& (2147483647 : Int32)) - ((u0 &&& (2147483647 : Int32)) / (6 : Int32)) * (6 : Int32))), .val (.int (1 : Int32)), .val (.int l1), .val (.int k2), .val (.int l2), .val (.int k3), .val (.int ((u3 &&& (2147483647 : Int32)) - ((u3 &&& (2147483647 : Int32)) / (k3 + (1 : Int32))) * (k3 + (1 : Int32)))), .val (.int k3), .unset, .unset, .unset, .unset] []))
          exact J40 (((u3 &&& (2147483647 : Int32)) - ((u3 &&& (2147483647 : Int32)) / (k3 + (1 : Int32))) * (k3 + (1 : Int32))), k3) (own_Jn _ _ (by omega) hl2 hc71)
    · intro J39
      show own_Go _ _ _ _ (s₁.setTop (mkF m 52 #[.val (.int u0), .val (.int u1), .val (.int u2), .val (.int u3), .val (.int u4), .val (.int ((u0 &&& (2147483647 : Int32)) - ((u0 &&& (2147483647 : Int32)) / (6 : Int32)) * (6 : Int32))), .val (.int (1 : Int32)), .val (.int l1), .val (.int k2), .val (.int ((u2 &&& (2147483647 : Int32)) - ((u2 &&& (2147483647 : Int32)) / (k2 + (1 : Int32))) * (k2 + (1 : Int32)))), .unset, .unset, .unset, .unset, .unset, .unset, .unset] []))
      refine own_st (fun _ k => XS.iload X0.here hx rfl (hb hby at_52) rfl k) ?_
      show own_Go _ _ _ _ (s₁.setTop (mkF m 54 #[.val (.int u0), .val (.int u1), .val (.int u2), .val (.int u3), .val (.int u4), .val (.int ((u0 &&& (2147483647 : Int32)) - ((u0 &&& (2147483647 : Int32)) / (6 : Int32)) * (6 : Int32))), .val (.int (1 : Int32)), .val (.int l1), .val (.int k2), .val (.int ((u2 &&& (2147483647 : Int32)) - ((u2 &&& (2147483647 : Int32)) / (k2 + (1 : Int32))) * (k2 + (1 : Int32)))), .unset, .unset, .unset, .unset, .unset, .unset, .unset] [(.int ((u2 &&& (2147483647 : Int32)) - ((u2 &&& (2147483647 : Int32)) / (k2 + (1 : Int32))) * (k2 + (1 : Int32))))]))
      refine own_st (fun _ k => XS.iload X0.here hx rfl (hb hby at_54) rfl k) ?_
      show own_Go _ _ _ _ (s₁.setTop (mkF m 56 #[.val (.int u0), .val (.int u1), .val (.int u2), .val (.int u3), .val (.int u4), .val (.int ((u0 &&& (2147483647 : Int32)) - ((u0 &&& (2147483647 : Int32)) / (6 : Int32)) * (6 : Int32))), .val (.int (1 : Int32)), .val (.int l1), .val (.int k2), .val (.int ((u2 &&& (2147483647 : Int32)) - ((u2 &&& (2147483647 : Int32)) / (k2 + (1 : Int32))) * (k2 + (1 : Int32)))), .unset, .unset, .unset, .unset, .unset, .unset, .unset] [(.int k2), (.int ((u2 &&& (2147483647 : Int32)) - ((u2 &&& (2147483647 : Int32)) / (k2 + (1 : Int32))) * (k2 + (1 : Int32))))]))
      by_cases hc72 : ((u2 &&& (2147483647 : Int32)) - ((u2 &&& (2147483647 : Int32)) / (k2 + (1 : Int32))) * (k2 + (1 : Int32))) = k2
      · skip
        refine own_st (fun _ k => XS.icmpNo X0.here hx rfl (hb hby at_56) rfl (teq hc72).2 k) ?_
        show own_Go _ _ _ _ (s₁.setTop (mkF m 59 #[.val (.int u0), .val (.int u1), .val (.int u2), .val (.int u3), .val (.int u4), .val (.int ((u0 &&& (2147483647 : Int32)) - ((u0 &&& (2147483647 : Int32)) / (6 : Int32)) * (6 : Int32))), .val (.int (1 : Int32)), .val (.int l1), .val (.int k2), .val (.int ((u2 &&& (2147483647 : Int32)) - ((u2 &&& (2147483647 : Int32)) / (k2 + (1 : Int32))) * (k2 + (1 : Int32)))), .unset, .unset, .unset, .unset, .unset, .unset, .unset] []))
        refine own_st (fun _ k => XS.iload X0.here hx rfl (hb hby at_59) rfl k) ?_
        show own_Go _ _ _ _ (s₁.setTop (mkF m 61 #[.val (.int u0), .val (.int u1), .val (.int u2), .val (.int u3), .val (.int u4), .val (.int ((u0 &&& (2147483647 : Int32)) - ((u0 &&& (2147483647 : Int32)) / (6 : Int32)) * (6 : Int32))), .val (.int (1 : Int32)), .val (.int l1), .val (.int k2), .val (.int ((u2 &&& (2147483647 : Int32)) - ((u2 &&& (2147483647 : Int32)) / (k2 + (1 : Int32))) * (k2 + (1 : Int32)))), .unset, .unset, .unset, .unset, .unset, .unset, .unset] [(.int k2)]))
        refine own_st (fun _ k => XS.iconst X0.here hx rfl (hb hby at_61) k) ?_
        show own_Go _ _ _ _ (s₁.setTop (mkF m 62 #[.val (.int u0), .val (.int u1), .val (.int u2), .val (.int u3), .val (.int u4), .val (.int ((u0 &&& (2147483647 : Int32)) - ((u0 &&& (2147483647 : Int32)) / (6 : Int32)) * (6 : Int32))), .val (.int (1 : Int32)), .val (.int l1), .val (.int k2), .val (.int ((u2 &&& (2147483647 : Int32)) - ((u2 &&& (2147483647 : Int32)) / (k2 + (1 : Int32))) * (k2 + (1 : Int32)))), .unset, .unset, .unset, .unset, .unset, .unset, .unset] [(.int (1 : Int32)), (.int k2)]))
        refine own_st (fun _ k => XS.iadd X0.here hx rfl (hb hby at_62) rfl k) ?_
        show own_Go _ _ _ _ (s₁.setTop (mkF m 63 #[.val (.int u0), .val (.int u1), .val (.int u2), .val (.int u3), .val (.int u4), .val (.int ((u0 &&& (2147483647 : Int32)) - ((u0 &&& (2147483647 : Int32)) / (6 : Int32)) * (6 : Int32))), .val (.int (1 : Int32)), .val (.int l1), .val (.int k2), .val (.int ((u2 &&& (2147483647 : Int32)) - ((u2 &&& (2147483647 : Int32)) / (k2 + (1 : Int32))) * (k2 + (1 : Int32)))), .unset, .unset, .unset, .unset, .unset, .unset, .unset] [(.int (k2 + (1 : Int32)))]))
        refine own_st (fun _ k => XS.goto X0.here hx rfl (pc0 := 63) (pc' := 68) rfl (hb hby at_63) (by decide) (by decide) k) ?_
        show own_Go _ _ _ _ (s₁.setTop (mkF m 68 #[.val (.int u0), .val (.int u1), .val (.int u2), .val (.int u3), .val (.int u4), .val (.int ((u0 &&& (2147483647 : Int32)) - ((u0 &&& (2147483647 : Int32)) / (6 : Int32)) * (6 : Int32))), .val (.int (1 : Int32)), .val (.int l1), .val (.int k2), .val (.int ((u2 &&& (2147483647 : Int32)) - ((u2 &&& (2147483647 : Int32)) / (k2 + (1 : Int32))) * (k2 + (1 : Int32)))), .unset, .unset, .unset, .unset, .unset, .unset, .unset] [(.int (k2 + (1 : Int32)))]))
        refine own_st (fun _ k => XS.istore X0.here hx rfl (hb hby at_68) rfl (l' := #[.val (.int u0), .val (.int u1), .val (.int u2), .val (.int u3), .val (.int u4), .val (.int ((u0 &&& (2147483647 : Int32)) - ((u0 &&& (2147483647 : Int32)) / (6 : Int32)) * (6 : Int32))), .val (.int (1 : Int32)), .val (.int l1), .val (.int k2), .val (.int ((u2 &&& (2147483647 : Int32)) - ((u2 &&& (2147483647 : Int32)) / (k2 + (1 : Int32))) * (k2 + (1 : Int32)))), .val (.int (k2 + (1 : Int32))), .unset, .unset, .unset, .unset, .unset, .unset]) rfl k) ?_
        show own_Go _ _ _ _ (s₁.setTop (mkF m 70 #[.val (.int u0), .val (.int u1), .val (.int u2), .val (.int u3), .val (.int u4), .val (.int ((u0 &&& (2147483647 : Int32)) - ((u0 &&& (2147483647 : Int32)) / (6 : Int32)) * (6 : Int32))), .val (.int (1 : Int32)), .val (.int l1), .val (.int k2), .val (.int ((u2 &&& (2147483647 : Int32)) - ((u2 &&& (2147483647 : Int32)) / (k2 + (1 : Int32))) * (k2 + (1 : Int32)))), .val (.int (k2 + (1 : Int32))), .unset, .unset, .unset, .unset, .unset, .unset] []))
        exact J39 (((u2 &&& (2147483647 : Int32)) - ((u2 &&& (2147483647 : Int32)) / (k2 + (1 : Int32))) * (k2 + (1 : Int32))), (k2 + (1 : Int32))) (own_Jy _ _ (by omega) hl1 hc72)
      · skip
        refine own_st (fun _ k => XS.icmpYes X0.here hx rfl (pc0 := 56) (pc' := 66) rfl (hb hby at_56) rfl (feq hc72).2 (by decide) (by decide) k) ?_
        show own_Go _ _ _ _ (s₁.setTop (mkF m 66 #[.val (.int u0), .val (.int u1), .val (.int u2), .val (.int u3), .val (.int u4), .val (.int ((u0 &&& (2147483647 : Int32)) - ((u0 &&& (2147483647 : Int32)) / (6 : Int32)) * (6 : Int32))), .val (.int (1 : Int32)), .val (.int l1), .val (.int k2), .val (.int ((u2 &&& (2147483647 : Int32)) - ((u2 &&& (2147483647 : Int32)) / (k2 + (1 : Int32))) * (k2 + (1 : Int32)))), .unset, .unset, .unset, .unset, .unset, .unset, .unset] []))
        refine own_st (fun _ k => XS.iload X0.here hx rfl (hb hby at_66) rfl k) ?_
        show own_Go _ _ _ _ (s₁.setTop (mkF m 68 #[.val (.int u0), .val (.int u1), .val (.int u2), .val (.int u3), .val (.int u4), .val (.int ((u0 &&& (2147483647 : Int32)) - ((u0 &&& (2147483647 : Int32)) / (6 : Int32)) * (6 : Int32))), .val (.int (1 : Int32)), .val (.int l1), .val (.int k2), .val (.int ((u2 &&& (2147483647 : Int32)) - ((u2 &&& (2147483647 : Int32)) / (k2 + (1 : Int32))) * (k2 + (1 : Int32)))), .unset, .unset, .unset, .unset, .unset, .unset, .unset] [(.int k2)]))
        refine own_st (fun _ k => XS.istore X0.here hx rfl (hb hby at_68) rfl (l' := #[.val (.int u0), .val (.int u1), .val (.int u2), .val (.int u3), .val (.int u4), .val (.int ((u0 &&& (2147483647 : Int32)) - ((u0 &&& (2147483647 : Int32)) / (6 : Int32)) * (6 : Int32))), .val (.int (1 : Int32)), .val (.int l1), .val (.int k2), .val (.int ((u2 &&& (2147483647 : Int32)) - ((u2 &&& (2147483647 : Int32)) / (k2 + (1 : Int32))) * (k2 + (1 : Int32)))), .val (.int k2), .unset, .unset, .unset, .unset, .unset, .unset]) rfl k) ?_
        show own_Go _ _ _ _ (s₁.setTop (mkF m 70 #[.val (.int u0), .val (.int u1), .val (.int u2), .val (.int u3), .val (.int u4), .val (.int ((u0 &&& (2147483647 : Int32)) - ((u0 &&& (2147483647 : Int32)) / (6 : Int32)) * (6 : Int32))), .val (.int (1 : Int32)), .val (.int l1), .val (.int k2), .val (.int ((u2 &&& (2147483647 : Int32)) - ((u2 &&& (2147483647 : Int32)) / (k2 + (1 : Int32))) * (k2 + (1 : Int32)))), .val (.int k2), .unset, .unset, .unset, .unset, .unset, .unset] []))
        exact J39 (((u2 &&& (2147483647 : Int32)) - ((u2 &&& (2147483647 : Int32)) / (k2 + (1 : Int32))) * (k2 + (1 : Int32))), k2) (own_Jn _ _ (by omega) hl1 hc72)
  · intro J38
    show own_Go _ _ _ _ (s₁.setTop (mkF m 23 #[.val (.int u0), .val (.int u1), .val (.int u2), .val (.int u3), .val (.int u4), .val (.int ((u0 &&& (2147483647 : Int32)) - ((u0 &&& (2147483647 : Int32)) / (6 : Int32)) * (6 : Int32))), .val (.int (1 : Int32)), .val (.int ((u1 &&& (2147483647 : Int32)) - ((u1 &&& (2147483647 : Int32)) / (2 : Int32)) * (2 : Int32))), .unset, .unset, .unset, .unset, .unset, .unset, .unset, .unset, .unset] []))
    refine own_st (fun _ k => XS.iload X0.here hx rfl (hb hby at_23) rfl k) ?_
    show own_Go _ _ _ _ (s₁.setTop (mkF m 25 #[.val (.int u0), .val (.int u1), .val (.int u2), .val (.int u3), .val (.int u4), .val (.int ((u0 &&& (2147483647 : Int32)) - ((u0 &&& (2147483647 : Int32)) / (6 : Int32)) * (6 : Int32))), .val (.int (1 : Int32)), .val (.int ((u1 &&& (2147483647 : Int32)) - ((u1 &&& (2147483647 : Int32)) / (2 : Int32)) * (2 : Int32))), .unset, .unset, .unset, .unset, .unset, .unset, .unset, .unset, .unset] [(.int ((u1 &&& (2147483647 : Int32)) - ((u1 &&& (2147483647 : Int32)) / (2 : Int32)) * (2 : Int32)))]))
    refine own_st (fun _ k => XS.iload X0.here hx rfl (hb hby at_25) rfl k) ?_
    show own_Go _ _ _ _ (s₁.setTop (mkF m 27 #[.val (.int u0), .val (.int u1), .val (.int u2), .val (.int u3), .val (.int u4), .val (.int ((u0 &&& (2147483647 : Int32)) - ((u0 &&& (2147483647 : Int32)) / (6 : Int32)) * (6 : Int32))), .val (.int (1 : Int32)), .val (.int ((u1 &&& (2147483647 : Int32)) - ((u1 &&& (2147483647 : Int32)) / (2 : Int32)) * (2 : Int32))), .unset, .unset, .unset, .unset, .unset, .unset, .unset, .unset, .unset] [(.int (1 : Int32)), (.int ((u1 &&& (2147483647 : Int32)) - ((u1 &&& (2147483647 : Int32)) / (2 : Int32)) * (2 : Int32)))]))
    by_cases hc73 : ((u1 &&& (2147483647 : Int32)) - ((u1 &&& (2147483647 : Int32)) / (2 : Int32)) * (2 : Int32)) = (1 : Int32)
    · skip
      refine own_st (fun _ k => XS.icmpNo X0.here hx rfl (hb hby at_27) rfl (teq hc73).2 k) ?_
      show own_Go _ _ _ _ (s₁.setTop (mkF m 30 #[.val (.int u0), .val (.int u1), .val (.int u2), .val (.int u3), .val (.int u4), .val (.int ((u0 &&& (2147483647 : Int32)) - ((u0 &&& (2147483647 : Int32)) / (6 : Int32)) * (6 : Int32))), .val (.int (1 : Int32)), .val (.int ((u1 &&& (2147483647 : Int32)) - ((u1 &&& (2147483647 : Int32)) / (2 : Int32)) * (2 : Int32))), .unset, .unset, .unset, .unset, .unset, .unset, .unset, .unset, .unset] []))
      refine own_st (fun _ k => XS.iload X0.here hx rfl (hb hby at_30) rfl k) ?_
      show own_Go _ _ _ _ (s₁.setTop (mkF m 32 #[.val (.int u0), .val (.int u1), .val (.int u2), .val (.int u3), .val (.int u4), .val (.int ((u0 &&& (2147483647 : Int32)) - ((u0 &&& (2147483647 : Int32)) / (6 : Int32)) * (6 : Int32))), .val (.int (1 : Int32)), .val (.int ((u1 &&& (2147483647 : Int32)) - ((u1 &&& (2147483647 : Int32)) / (2 : Int32)) * (2 : Int32))), .unset, .unset, .unset, .unset, .unset, .unset, .unset, .unset, .unset] [(.int (1 : Int32))]))
      refine own_st (fun _ k => XS.iconst X0.here hx rfl (hb hby at_32) k) ?_
      show own_Go _ _ _ _ (s₁.setTop (mkF m 33 #[.val (.int u0), .val (.int u1), .val (.int u2), .val (.int u3), .val (.int u4), .val (.int ((u0 &&& (2147483647 : Int32)) - ((u0 &&& (2147483647 : Int32)) / (6 : Int32)) * (6 : Int32))), .val (.int (1 : Int32)), .val (.int ((u1 &&& (2147483647 : Int32)) - ((u1 &&& (2147483647 : Int32)) / (2 : Int32)) * (2 : Int32))), .unset, .unset, .unset, .unset, .unset, .unset, .unset, .unset, .unset] [(.int (1 : Int32)), (.int (1 : Int32))]))
      refine own_st (fun _ k => XS.iadd X0.here hx rfl (hb hby at_33) rfl k) ?_
      show own_Go _ _ _ _ (s₁.setTop (mkF m 34 #[.val (.int u0), .val (.int u1), .val (.int u2), .val (.int u3), .val (.int u4), .val (.int ((u0 &&& (2147483647 : Int32)) - ((u0 &&& (2147483647 : Int32)) / (6 : Int32)) * (6 : Int32))), .val (.int (1 : Int32)), .val (.int ((u1 &&& (2147483647 : Int32)) - ((u1 &&& (2147483647 : Int32)) / (2 : Int32)) * (2 : Int32))), .unset, .unset, .unset, .unset, .unset, .unset, .unset, .unset, .unset] [(.int (2 : Int32))]))
      refine own_st (fun _ k => XS.goto X0.here hx rfl (pc0 := 34) (pc' := 39) rfl (hb hby at_34) (by decide) (by decide) k) ?_
      show own_Go _ _ _ _ (s₁.setTop (mkF m 39 #[.val (.int u0), .val (.int u1), .val (.int u2), .val (.int u3), .val (.int u4), .val (.int ((u0 &&& (2147483647 : Int32)) - ((u0 &&& (2147483647 : Int32)) / (6 : Int32)) * (6 : Int32))), .val (.int (1 : Int32)), .val (.int ((u1 &&& (2147483647 : Int32)) - ((u1 &&& (2147483647 : Int32)) / (2 : Int32)) * (2 : Int32))), .unset, .unset, .unset, .unset, .unset, .unset, .unset, .unset, .unset] [(.int (2 : Int32))]))
      refine own_st (fun _ k => XS.istore X0.here hx rfl (hb hby at_39) rfl (l' := #[.val (.int u0), .val (.int u1), .val (.int u2), .val (.int u3), .val (.int u4), .val (.int ((u0 &&& (2147483647 : Int32)) - ((u0 &&& (2147483647 : Int32)) / (6 : Int32)) * (6 : Int32))), .val (.int (1 : Int32)), .val (.int ((u1 &&& (2147483647 : Int32)) - ((u1 &&& (2147483647 : Int32)) / (2 : Int32)) * (2 : Int32))), .val (.int (2 : Int32)), .unset, .unset, .unset, .unset, .unset, .unset, .unset, .unset]) rfl k) ?_
      show own_Go _ _ _ _ (s₁.setTop (mkF m 41 #[.val (.int u0), .val (.int u1), .val (.int u2), .val (.int u3), .val (.int u4), .val (.int ((u0 &&& (2147483647 : Int32)) - ((u0 &&& (2147483647 : Int32)) / (6 : Int32)) * (6 : Int32))), .val (.int (1 : Int32)), .val (.int ((u1 &&& (2147483647 : Int32)) - ((u1 &&& (2147483647 : Int32)) / (2 : Int32)) * (2 : Int32))), .val (.int (2 : Int32)), .unset, .unset, .unset, .unset, .unset, .unset, .unset, .unset] []))
      exact J38 (((u1 &&& (2147483647 : Int32)) - ((u1 &&& (2147483647 : Int32)) / (2 : Int32)) * (2 : Int32)), (2 : Int32)) (own_Jy _ _ (by omega) hl0 hc73)
    · skip
      refine own_st (fun _ k => XS.icmpYes X0.here hx rfl (pc0 := 27) (pc' := 37) rfl (hb hby at_27) rfl (feq hc73).2 (by decide) (by decide) k) ?_
      show own_Go _ _ _ _ (s₁.setTop (mkF m 37 #[.val (.int u0), .val (.int u1), .val (.int u2), .val (.int u3), .val (.int u4), .val (.int ((u0 &&& (2147483647 : Int32)) - ((u0 &&& (2147483647 : Int32)) / (6 : Int32)) * (6 : Int32))), .val (.int (1 : Int32)), .val (.int ((u1 &&& (2147483647 : Int32)) - ((u1 &&& (2147483647 : Int32)) / (2 : Int32)) * (2 : Int32))), .unset, .unset, .unset, .unset, .unset, .unset, .unset, .unset, .unset] []))
      refine own_st (fun _ k => XS.iload X0.here hx rfl (hb hby at_37) rfl k) ?_
      show own_Go _ _ _ _ (s₁.setTop (mkF m 39 #[.val (.int u0), .val (.int u1), .val (.int u2), .val (.int u3), .val (.int u4), .val (.int ((u0 &&& (2147483647 : Int32)) - ((u0 &&& (2147483647 : Int32)) / (6 : Int32)) * (6 : Int32))), .val (.int (1 : Int32)), .val (.int ((u1 &&& (2147483647 : Int32)) - ((u1 &&& (2147483647 : Int32)) / (2 : Int32)) * (2 : Int32))), .unset, .unset, .unset, .unset, .unset, .unset, .unset, .unset, .unset] [(.int (1 : Int32))]))
      refine own_st (fun _ k => XS.istore X0.here hx rfl (hb hby at_39) rfl (l' := #[.val (.int u0), .val (.int u1), .val (.int u2), .val (.int u3), .val (.int u4), .val (.int ((u0 &&& (2147483647 : Int32)) - ((u0 &&& (2147483647 : Int32)) / (6 : Int32)) * (6 : Int32))), .val (.int (1 : Int32)), .val (.int ((u1 &&& (2147483647 : Int32)) - ((u1 &&& (2147483647 : Int32)) / (2 : Int32)) * (2 : Int32))), .val (.int (1 : Int32)), .unset, .unset, .unset, .unset, .unset, .unset, .unset, .unset]) rfl k) ?_
      show own_Go _ _ _ _ (s₁.setTop (mkF m 41 #[.val (.int u0), .val (.int u1), .val (.int u2), .val (.int u3), .val (.int u4), .val (.int ((u0 &&& (2147483647 : Int32)) - ((u0 &&& (2147483647 : Int32)) / (6 : Int32)) * (6 : Int32))), .val (.int (1 : Int32)), .val (.int ((u1 &&& (2147483647 : Int32)) - ((u1 &&& (2147483647 : Int32)) / (2 : Int32)) * (2 : Int32))), .val (.int (1 : Int32)), .unset, .unset, .unset, .unset, .unset, .unset, .unset, .unset] []))
      exact J38 (((u1 &&& (2147483647 : Int32)) - ((u1 &&& (2147483647 : Int32)) / (2 : Int32)) * (2 : Int32)), (1 : Int32)) (own_Jn _ _ (by omega) hl0 hc73)
set_option maxRecDepth 65536 in
set_option maxHeartbeats 40000000 in
theorem comes_1 {Post : Tables → Env → Array Value → State → Outcome → State → Prop} (hpost : ∀ tb e args s v u, (limb_1_1.after args s (.returned v) u = true ∧ limb_1_2.after args s (.returned v) u = true ∧ True) → FrameEnd s (.returned v) u (Jvm.fieldLocs frame_1_writes args s ++ Jvm.arrayLocs frame_1_arrays args s ++ Jvm.staticLocs frame_1_statics s) 16 128 → Post tb e args s (.returned v) u) :
    ArmFor flags0 classFile x code maxLocals ret World_1 tables_1 room_1 Calls_1 rest_1 Pre_1 Post := by
  intro l hfl _ _ p e ha hc hk s m args below hf hA hF happ hP
  obtain ⟨hcalls, hrest, hpre⟩ := hP
  obtain ⟨-, -, -, hnamed, -, -, -, hat⟩ := (Spec.applies_iff hf).mp happ
  obtain ⟨hg, hn⟩ := and_e (Cond.before_iff.mp (show (Jvm.Cond.and given_1 narrow_1).before args s = true from hpre))
  obtain ⟨h1, h2⟩ := and_e hg
  obtain ⟨ha0, h2⟩ := and_e h2
  obtain ⟨ha1, h2⟩ := and_e h2
  obtain ⟨ha2, h2⟩ := and_e h2
  obtain ⟨ha3, h2⟩ := and_e h2
  have ha4 := h2
  obtain ⟨w0, w1, w2, w3, w4, rfl⟩ : ∃ w0 w1 w2 w3 w4 : Value, args = #[w0, w1, w2, w3, w4] := by
    have hs : args.size = 5 := by simpa [Cond.value, given_1] using h1
    obtain ⟨L⟩ := args
    match L, hs with
    | [w0, w1, w2, w3, w4], _ => exact ⟨w0, w1, w2, w3, w4, rfl⟩
  have hw := fun d (hd : d ∈ tables_1) => atoms_spec (ws := Jvm.Cond.code x code maxLocals ret :: tables_1) hat d (List.mem_cons_of_mem _ hd)
  obtain ⟨i0, ei0⟩ := is_v ha0
  obtain rfl : w0 = (.int i0) := Option.some.inj ei0
  obtain ⟨i1, ei1⟩ := is_v ha1
  obtain rfl : w1 = (.int i1) := Option.some.inj ei1
  obtain ⟨i2, ei2⟩ := is_v ha2
  obtain rfl : w2 = (.int i2) := Option.some.inj ei2
  obtain ⟨i3, ei3⟩ := is_v ha3
  obtain rfl : w3 = (.int i3) := Option.some.inj ei3
  obtain ⟨i4, ei4⟩ := is_v ha4
  obtain rfl : w4 = (.int i4) := Option.some.inj ei4
  obtain ⟨n, o, h1, h2, h3, _, L, rfl, ⟨rfl, N⟩, hq⟩ := rm0 l s _ hw tables_1 i0 i1 i2 i3 i4 s.heap s.heap.size (Nat.le_refl _)  p e ha hc hk s m _ below hf ((Spec.applies_iff_loose hf).mp happ).1 ⟨rfl, State.Warmed39.refl s, rfl⟩ trivial
  refine ⟨n, _, h1, h2, h3, hpost _ _ _ _ _ _ ⟨Cond.after_iff.mpr rfl, Cond.after_iff.mpr (eq_i res_at (Term.int_eval (1)) rfl), trivial⟩ ⟨hq.1, hq.2.1, (hq.2.2.sift fun y hy => Or.inr (N y hy)).mono (by decide) (by decide)⟩⟩
theorem main_1_1 : Claimed_1_1 := comes_1 fun _ _ _ _ _ _ h hF => ⟨h.1, hF⟩
theorem main_1_2 : Claimed_1_2 := comes_1 fun _ _ _ _ _ _ h hF => ⟨h.2.1, hF⟩
end Jvm.Pilot.@@N@@
namespace Jvm.Pilot.@@N@@
open Jvm Jvm.ClassFile Sem Op Lib Jvm.Free Jvm.Stand Jvm.Pilot.@@N@@.Jvm.D
/-! MADE BY PROGRAM (witnessworld.py) out of the Statement's table words and the real class files: 10 classes; the members and pool entries that the words name. The judged class is class 1, her method 1. -/
namespace start1
open Jvm.ClassFile
def u (s : String) : CpInfo := .utf8 (stringToUtf16 s)
/-- a pool by its gaps: so many unusable entries, then the entry; so many at the end -/
def gap : Nat → List CpInfo → List CpInfo
  | 0, r => r
  | n + 1, r => .unusable :: gap n r
def poolList (es : List (Nat × CpInfo)) (last : Nat) : List CpInfo := es.foldr (fun e r => gap e.1 (e.2 :: r)) (gap last [])
def pool (es : List (Nat × CpInfo)) (last : Nat) : Array CpInfo := ⟨poolList es last⟩
def fileOf (pool : Array CpInfo) (this : Nat) (attrs : Array Attribute := #[]) (ms : Array MethodInfo := #[]) (fl : Nat := 33) (sup : Nat := 0) (ifs : Array Nat := #[]) (fds : Array FieldInfo := #[]) : ClassFile where
  minorVersion := 0
  majorVersion := 65
  constantPool := pool
  accessFlags := fl
  thisClass := this
  superClass := sup
  interfaces := ifs
  fields := fds
  methods := ms
  attributes := attrs
def plain (name : String) (sup : Option ClassId) : Class where
  name := name
  kind := .ordinary
  loader := none
  accessFlags := 33
  super := sup
  interfaces := #[]
  cf := none
  fields := #[]
  methods := #[]
  instanceTypes := #[]
  staticTypes := #[]
  resolved := #[]
  callSites := []
  init := .initialized
  statics := none
  mirror := none

def pool0 : Array CpInfo := pool [(5, u "<init>"), (0, u "()V"), (1, .class_ 10), (1, u "java/lang/Object")] 113

def k0m0 : Method := { name := "<init>", desc := "()V", sig := { parameters := [], returnType := none }, accessFlags := 1, code := none }
/-- java/lang/Object -/
def k0 : Class := { plain "java/lang/Object" none with
  accessFlags := 33
  interfaces := #[]
  cf := some (fileOf pool0 8 #[] #[{ accessFlags := 1, nameIndex := 5, descriptorIndex := 6, attributes := #[] }] 33 0 #[] #[])
  fields := #[]
  methods := #[k0m0]
  instanceTypes := #[]
  staticTypes := #[]
  resolved := Array.replicate 124 none
  statics := none }

def pool1 : Array CpInfo := pool [(2, .class_ 4), (1, u "java/lang/Object"), (0, u "<init>"), (0, u "()V"), (0, .integer 2147483647), (0, .methodref 9 10), (0, .class_ 11), (0, .nameAndType 12 13), (0, u "com/example/barred_owl/barredowl/Embedding"), (0, u "componentCount"), (0, u "([I)I"), (0, .class_ 15), (0, u "com/example/barred_owl/barredowl/EmbeddingComponentCountPinLaw"), (2, u "law"), (0, u "(IIIII)Z")] 5

def k1m0 : Method := { name := "<init>", desc := "()V", sig := { parameters := [], returnType := none }, accessFlags := 2, code := none }
def k1c1 : Code := { maxStack := 4, maxLocals := 17, code := code, exceptionTable := #[], attributes := #[] }
def k1m1 : Method := { name := "law", desc := "(IIIII)Z", sig := { parameters := [.int, .int, .int, .int, .int], returnType := some .boolean }, accessFlags := 9, code := some k1c1 }
/-- com/example/barred_owl/barredowl/EmbeddingComponentCountPinLaw -/
def k1 : Class := { plain "com/example/barred_owl/barredowl/EmbeddingComponentCountPinLaw" (some 0) with
  accessFlags := 49
  interfaces := #[]
  cf := some (fileOf pool1 14 #[] #[{ accessFlags := 2, nameIndex := 5, descriptorIndex := 6, attributes := #[] }, { accessFlags := 9, nameIndex := 18, descriptorIndex := 19, attributes := #[] }] 49 2 #[] #[])
  fields := #[]
  methods := #[k1m0, k1m1]
  instanceTypes := #[]
  staticTypes := #[]
  resolved := Array.replicate 25 none
  statics := none }

def pool2 : Array CpInfo := pool [(2, .class_ 4), (1, u "java/lang/Object"), (17, .methodref 23 24), (0, .class_ 25), (0, .nameAndType 26 27), (0, u "java/lang/Math"), (0, u "max"), (0, u "(II)I"), (1, .class_ 31), (1, u "com/example/barred_owl/barredowl/Embedding"), (0, u "target"), (0, u "[I"), (2, u "next"), (2, u "previous"), (2, u "firstDart"), (2, u "degree"), (2, u "dartCount"), (0, u "I"), (39, u "componentCount"), (0, u "([I)I"), (5, .class_ 98), (1, u "com/example/barred_owl/barredowl/Embedding$Faces")] 60

def k2c0 : Code := { maxStack := 3, maxLocals := 6, code := prog_25_method_17_code, exceptionTable := #[], attributes := #[] }
def k2m0 : Method := { name := "componentCount", desc := "([I)I", sig := { parameters := [(.array .int)], returnType := some .int }, accessFlags := 8, code := some k2c0 }
/-- com/example/barred_owl/barredowl/Embedding -/
def k2 : Class := { plain "com/example/barred_owl/barredowl/Embedding" (some 0) with
  accessFlags := 48
  interfaces := #[]
  cf := some (fileOf pool2 29 #[.nestMembers #[96]] #[{ accessFlags := 8, nameIndex := 89, descriptorIndex := 90, attributes := #[] }] 48 2 #[] #[{ accessFlags := 18, nameIndex := 32, descriptorIndex := 33, attributes := #[] }, { accessFlags := 18, nameIndex := 36, descriptorIndex := 33, attributes := #[] }, { accessFlags := 18, nameIndex := 39, descriptorIndex := 33, attributes := #[] }, { accessFlags := 18, nameIndex := 42, descriptorIndex := 33, attributes := #[] }, { accessFlags := 18, nameIndex := 45, descriptorIndex := 33, attributes := #[] }, { accessFlags := 2, nameIndex := 48, descriptorIndex := 49, attributes := #[] }])
  fields := #[{ name := "target", type := (.array .int), accessFlags := 18, slot := 0, constantValue := 0 }, { name := "next", type := (.array .int), accessFlags := 18, slot := 1, constantValue := 0 }, { name := "previous", type := (.array .int), accessFlags := 18, slot := 2, constantValue := 0 }, { name := "firstDart", type := (.array .int), accessFlags := 18, slot := 3, constantValue := 0 }, { name := "degree", type := (.array .int), accessFlags := 18, slot := 4, constantValue := 0 }, { name := "dartCount", type := .int, accessFlags := 2, slot := 5, constantValue := 0 }]
  methods := #[k2m0]
  instanceTypes := #[(.array .int), (.array .int), (.array .int), (.array .int), (.array .int), .int]
  staticTypes := #[]
  resolved := Array.replicate 159 none
  statics := none }

def pool3 : Array CpInfo := pool [(1, .class_ 2), (0, u "java/lang/Math"), (1, .class_ 6), (1, u "java/lang/Object"), (0, u "<init>"), (0, u "()V"), (89, .class_ 100), (1, u "java/lang/Math$RandomNumberGeneratorHolder"), (71, u "negativeZeroFloatBits"), (0, u "J"), (2, u "negativeZeroDoubleBits"), (21, u "max"), (46, u "$assertionsDisabled"), (0, u "Z"), (88, u "(II)I"), (2, u "twoToTheDoubleScaleDown"), (0, u "D"), (4, u "twoToTheDoubleScaleUp"), (9, u "E"), (3, u "PI"), (2, u "TAU"), (2, u "DEGREES_TO_RADIANS"), (0, u "RADIANS_TO_DEGREES")] 94

def k3m0 : Method := { name := "<init>", desc := "()V", sig := { parameters := [], returnType := none }, accessFlags := 2, code := none }
def k3c1 : Code := { maxStack := 2, maxLocals := 2, code := jdk_29_method_65_code, exceptionTable := #[], attributes := #[] }
def k3m1 : Method := { name := "max", desc := "(II)I", sig := { parameters := [.int, .int], returnType := some .int }, accessFlags := 9, code := some k3c1 }
/-- java/lang/Math -/
def k3 : Class := { plain "java/lang/Math" (some 0) with
  accessFlags := 49
  interfaces := #[]
  cf := some (fileOf pool3 1 #[.nestMembers #[98]] #[{ accessFlags := 2, nameIndex := 7, descriptorIndex := 8, attributes := #[] }, { accessFlags := 9, nameIndex := 198, descriptorIndex := 335, attributes := #[] }] 49 4 #[] #[{ accessFlags := 25, nameIndex := 354, descriptorIndex := 339, attributes := #[] }, { accessFlags := 25, nameIndex := 358, descriptorIndex := 339, attributes := #[] }, { accessFlags := 25, nameIndex := 361, descriptorIndex := 339, attributes := #[] }, { accessFlags := 26, nameIndex := 364, descriptorIndex := 339, attributes := #[] }, { accessFlags := 26, nameIndex := 365, descriptorIndex := 339, attributes := #[] }, { accessFlags := 26, nameIndex := 172, descriptorIndex := 173, attributes := #[] }, { accessFlags := 26, nameIndex := 176, descriptorIndex := 173, attributes := #[] }, { accessFlags := 8, nameIndex := 344, descriptorIndex := 339, attributes := #[] }, { accessFlags := 8, nameIndex := 338, descriptorIndex := 339, attributes := #[] }, { accessFlags := 4120, nameIndex := 245, descriptorIndex := 246, attributes := #[] }])
  fields := #[{ name := "E", type := .double, accessFlags := 25, slot := 0, constantValue := 0 }, { name := "PI", type := .double, accessFlags := 25, slot := 1, constantValue := 0 }, { name := "TAU", type := .double, accessFlags := 25, slot := 2, constantValue := 0 }, { name := "DEGREES_TO_RADIANS", type := .double, accessFlags := 26, slot := 3, constantValue := 0 }, { name := "RADIANS_TO_DEGREES", type := .double, accessFlags := 26, slot := 4, constantValue := 0 }, { name := "negativeZeroFloatBits", type := .long, accessFlags := 26, slot := 5, constantValue := 0 }, { name := "negativeZeroDoubleBits", type := .long, accessFlags := 26, slot := 6, constantValue := 0 }, { name := "twoToTheDoubleScaleUp", type := .double, accessFlags := 8, slot := 7, constantValue := 0 }, { name := "twoToTheDoubleScaleDown", type := .double, accessFlags := 8, slot := 8, constantValue := 0 }, { name := "$assertionsDisabled", type := .boolean, accessFlags := 4120, slot := 9, constantValue := 0 }]
  methods := #[k3m0, k3m1]
  instanceTypes := #[]
  staticTypes := #[.double, .double, .double, .double, .double, .long, .long, .double, .double, .boolean]
  resolved := Array.replicate 460 none
  statics := none }

def pool4 : Array CpInfo := pool [(1, u "java/lang/Cloneable"), (0, .class_ 1), (0, u "java/lang/Object"), (0, .class_ 3)] 3

/-- java/lang/Cloneable -/
def k4 : Class := { plain "java/lang/Cloneable" (some 0) with
  accessFlags := 1537
  interfaces := #[]
  cf := some (fileOf pool4 2 #[] #[] 1537 4 #[] #[])
  fields := #[]
  methods := #[]
  instanceTypes := #[]
  staticTypes := #[]
  resolved := Array.replicate 8 none
  statics := none }

def pool5 : Array CpInfo := pool [(1, u "java/io/Serializable"), (0, .class_ 1), (0, u "java/lang/Object"), (0, .class_ 3)] 3

/-- java/io/Serializable -/
def k5 : Class := { plain "java/io/Serializable" (some 0) with
  accessFlags := 1537
  interfaces := #[]
  cf := some (fileOf pool5 2 #[] #[] 1537 4 #[] #[])
  fields := #[]
  methods := #[]
  instanceTypes := #[]
  staticTypes := #[]
  resolved := Array.replicate 8 none
  statics := none }

/-- the primitive byte -/
def k6 : Class := { plain "byte" none with kind := .primitive 'B', accessFlags := 0x411 }
/-- [B -/
def k7 : Class := { plain "[B" (some 0) with kind := .array 6 .byte, interfaces := #[4, 5], accessFlags := 1041 }

/-- the primitive int -/
def k8 : Class := { plain "int" none with kind := .primitive 'I', accessFlags := 0x411 }
/-- [I -/
def k9 : Class := { plain "[I" (some 0) with kind := .array 8 .int, interfaces := #[4, 5], accessFlags := 1041 }

def heap : Heap := #[]
def classes : Array Class := #[k0, k1, k2, k3, k4, k5, k6, k7, k8, k9]
def interned : List (Array UInt16 × Addr) := []
def slotsUsed : Nat := 0
def theMethod : MethodId := ⟨1, 1⟩
def args0 : Array Value := #[.int 5, .int 5, .int 5, .int 5, .int 5]
def aboutOver (below : List Frame) : State where
  vm := { classes := classes, interned := interned.toArray }
  heap := heap
  slotsUsed := slotsUsed
  threads := #[{ frames := .invoking theMethod args0 :: below }]
def below0 : List Frame := [.native { method := ⟨0, 0⟩, args := #[] }]
def about1 : State := aboutOver below0
def p0 : Program := .bare "" "" ""
def e0 : Env := launch0.env 0 0 0
theorem w_frames : about1.frames = Frame.invoking theMethod args0 :: below0 := rfl
set_option maxRecDepth 65536 in
theorem w_args : argsFit about1.vm theMethod args0 = true := by decide +kernel
set_option maxRecDepth 65536 in
theorem w_heap : heapFits about1 = true := by decide +kernel
set_option maxRecDepth 65536 in
theorem w_runnable : about1.curStatus? = some .runnable := by decide +kernel
set_option maxRecDepth 65536 in
theorem w_alone : about1.alone = true := by decide +kernel
set_option maxRecDepth 65536 in
theorem w_named : about1.methodNamed? x = some theMethod := by decide +kernel
set_option maxRecDepth 65536 in
theorem w_hears : about1.hears theMethod below0 = true := by decide +kernel
set_option maxRecDepth 65536 in
theorem w_ripe : about1.ripe theMethod args0 below0 = true := by decide +kernel
theorem w_running : about1.status = .running := rfl
set_option maxRecDepth 65536 in
theorem w_room : about1.hasRoom e0.platform room_1 = true :=
  launch0.hasRoom_least _ room_1 (by decide +kernel) (by decide +kernel) (by decide +kernel) (by decide +kernel) (by decide +kernel) (by decide +kernel)
theorem allAtoms_all (ts : List Jvm.Cond) (a : Array Jvm.Value) (st : Jvm.State) : (allAtoms ts).before a st = ts.all (fun c => c.before a st) := by
  induction ts with
  | nil => rfl
  | cons c t ih =>
    show (Jvm.Cond.and c (allAtoms t)).before a st = _
    rw [Jvm.Cond.before_and, ih, List.all_cons]
def words1 : List Jvm.Cond := Jvm.Cond.code x code maxLocals ret :: tables_1
/-- a 'code' word, met by the world's own term for the bytes: nothing is compared byte by byte -/
theorem code_word {y : MethodName} {bytes : ByteArray} {mx : Nat} {rt : Option FieldType} {a : Array Value} {s : State} {m : MethodId} {meth : Method} {c : Code} (h1 : s.methodNamed? y = some m) (h2 : s.vm.method? m = some meth) (h3 : meth.code = some c) (h4 : c.code = bytes)
    (h5 : (c.maxLocals == mx && c.exceptionTable.isEmpty && decide (c.maxStack ≤ mostOperands) && decide (meth.sig.returnType = rt) && !meth.locks && decide (parseMethodDescriptor y.desc = some meth.sig)) = true) : (Jvm.Cond.code y bytes mx rt).before a s = true := by
  simp only [Bool.and_eq_true, beq_iff_eq, Bool.not_eq_true', decide_eq_true_eq] at h5
  obtain ⟨⟨⟨⟨⟨g1, g2⟩, g3⟩, g4⟩, g5⟩, g6⟩ := h5
  simp [Cond.before, Cond.holds, Cond.value, h1, h2, h3, h4, g1, g2, g3, g4, g5, g6]
def isCode : Jvm.Cond → Bool
  | .code _ _ _ _ => true
  | _ => false
theorem all_split {L : List Jvm.Cond} {P : Jvm.Cond → Bool} (h1 : L.all (fun c => isCode c || P c) = true) (h2 : ∀ c ∈ L.filter isCode, P c = true) : L.all P = true := by
  refine List.all_eq_true.mpr fun c hc => ?_
  have h := List.all_eq_true.mp h1 c hc
  rcases Bool.eq_false_or_eq_true (isCode c) with hi | hi
  · exact h2 c (List.mem_filter.mpr ⟨hc, hi⟩)
  · simpa [hi] using h
set_option maxRecDepth 65536 in
theorem w_c0 : (Jvm.Cond.code x code maxLocals ret).before args0 about1 = true := code_word (m := ⟨1, 1⟩) (meth := k1m1) (c := k1c1) (by decide +kernel) rfl rfl rfl (by decide +kernel)
set_option maxRecDepth 65536 in
theorem w_c1 : (Jvm.Cond.code ({ cls := "com/example/barred_owl/barredowl/Embedding", name := "componentCount", desc := "([I)I" } : Jvm.MethodName) prog_25_method_17_code (6 : Nat) (Option.some Jvm.ClassFile.FieldType.int)).before args0 about1 = true := code_word (m := ⟨2, 0⟩) (meth := k2m0) (c := k2c0) (by decide +kernel) rfl rfl rfl (by decide +kernel)
set_option maxRecDepth 65536 in
theorem w_c2 : (Jvm.Cond.code ({ cls := "java/lang/Math", name := "max", desc := "(II)I" } : Jvm.MethodName) jdk_29_method_65_code (2 : Nat) (Option.some Jvm.ClassFile.FieldType.int)).before args0 about1 = true := code_word (m := ⟨3, 1⟩) (meth := k3m1) (c := k3c1) (by decide +kernel) rfl rfl rfl (by decide +kernel)
def codes1 : List Jvm.Cond := [Jvm.Cond.code x code maxLocals ret, Jvm.Cond.code ({ cls := "com/example/barred_owl/barredowl/Embedding", name := "componentCount", desc := "([I)I" } : Jvm.MethodName) prog_25_method_17_code (6 : Nat) (Option.some Jvm.ClassFile.FieldType.int), Jvm.Cond.code ({ cls := "java/lang/Math", name := "max", desc := "(II)I" } : Jvm.MethodName) jdk_29_method_65_code (2 : Nat) (Option.some Jvm.ClassFile.FieldType.int)]
set_option maxRecDepth 65536 in
theorem codes_eq : words1.filter isCode = codes1 := rfl
theorem w_codes : ∀ c ∈ words1.filter isCode, c.before args0 about1 = true := by
  rw [codes_eq]
  intro c hc
  simp only [codes1, List.mem_cons, List.not_mem_nil, or_false] at hc
  rcases hc with rfl | rfl | rfl
  · exact w_c0
  · exact w_c1
  · exact w_c2
set_option maxRecDepth 65536 in
theorem w_t1 : words1.all (fun c => isCode c || c.before args0 about1) = true := by decide +kernel
theorem w_tables : (allAtoms (Jvm.Cond.code x code maxLocals ret :: tables_1)).before args0 about1 = true := by
  rw [allAtoms_all]
  show words1.all (fun c => c.before args0 about1) = true
  refine all_split ?_ w_codes
  rw [w_t1]
set_option maxRecDepth 65536 in
theorem w_case : (Jvm.Cond.and given_1 narrow_1).before args0 about1 = true := by decide +kernel
theorem w_applies : (headSpec (Jvm.Cond.code x code maxLocals ret :: tables_1) room_1).applies x e0.platform about1 = true :=
  (Spec.applies_iff w_frames).mpr ⟨w_running, w_runnable, w_alone, w_named, w_hears, w_ripe, w_room, w_tables⟩
theorem atStart : AtStart classFile x code maxLocals ret World_1 tables_1 room_1 Calls_1 rest_1 Pre_1 launch0 p0 e0 about1 theMethod args0 below0 :=
  ⟨lists_1, trivial, launch0.admits_env _ _ _, launch0.least_env, fairChoices_fair.cas, fairChoices_fair.clock, w_frames, w_args, w_heap, w_applies, trivial, trivial, w_case⟩
end start1
theorem witness_1 : WitnessClaimed_1 := ⟨start1.p0, start1.e0, start1.about1, start1.theMethod, start1.args0, start1.below0, start1.atStart⟩
end Jvm.Pilot.@@N@@
