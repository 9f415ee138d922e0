import JvmDerived
import JvmDerived.Pilot.@@N@@Statement
import JvmDerived.Pilot.@@N@@Code
set_option linter.unusedVariables false
set_option linter.unusedSimpArgs false
namespace Jvm.Pilot.@@N@@
open Jvm Jvm.ClassFile Sem Op Lib Jvm.Free Jvm.Stand Jvm.LawKit Jvm.RoadKit Bundle Jvm.Pilot.@@N@@.Jvm.D
def own_Go (tb : Tables) (e : Env) (below : List Frame) (P : State → Outcome → Prop) (A : State) : Prop := ∃ s₂ o, Steps tb e below A s₂ ∧ P s₂ o
theorem own_in {tb : Tables} {e : Env} {below : List Frame} {P : State → Outcome → Prop} {A : State} (h : own_Go tb e below P A) : ∃ s₂ o, Steps tb e below A s₂ ∧ P s₂ o := h
theorem own_st {tb : Tables} {e : Env} {below : List Frame} {P : State → Outcome → Prop} {A B : State} (h : ∀ t, Steps tb e below B t → Steps tb e below A t) (k : own_Go tb e below P B) : own_Go tb e below P A := by
  obtain ⟨s₂, o, h1, h2⟩ := k
  exact ⟨s₂, o, h _ h1, h2⟩
theorem own_tr {tb : Tables} {e : Env} {below : List Frame} {P : State → Outcome → Prop} {A B : State} (h : Steps tb e below A B) (k : own_Go tb e below P B) : own_Go tb e below P A := by
  obtain ⟨s₂, o, h1, h2⟩ := k
  exact ⟨s₂, o, h.trans h1, h2⟩
theorem own_out {tb : Tables} {e : Env} {below : List Frame} {P : State → Outcome → Prop} {A B : State} {o : Outcome} (h : Steps tb e below A B) (k : P B o) : own_Go tb e below P A := ⟨B, o, h, k⟩
theorem own_join {ι : Type} {tb : Tables} {e : Env} {below : List Frame} {P : State → Outcome → Prop} {A : State} (B : ι → State) (K : ι → Prop) (hJ : ∀ b, K b → own_Go tb e below P (B b)) (h : (∀ b, K b → own_Go tb e below P (B b)) → own_Go tb e below P A) : own_Go tb e below P A := h hJ
section Own
variable {p : Program} {l : Launch} {e : Env} {R : Room} {s : State} {m : MethodId} {args : Array Value} {below : List Frame} {meth : Method} {c : Code} {T : State} {locs : List Loc} {cells slots : Nat}
theorem own_retI (X : Stand p l e R s m args below meth c T locs cells slots) (hx : p.tables.exec = Jvm.exec) {pc : Nat} {Ls : Array Slot} {z : Int32} {rest : List Value} (hret : meth.sig.returnType = some .int) (hd : decode c.code pc = .ok (.ireturn, 1)) {fs : List Frame}
    (hl : ∀ (f : JFrame) (acts : List Action), f.method = m → f.locked = none → f.entered = [] → (doReturn e (T.setTop f) acts (some (.int z))).1 = T.setFrames fs) : Steps p.tables e below (T.setTop (mkF m pc Ls (.int z :: rest))) (T.setFrames fs) := by
  have hm' : T.vm.method? m = some meth := X.method'
  have hn : narrow .int (.int z) = .int z := rfl
  show Steps p.tables e below (T.setTop { method := m, pc := pc, locals := Ls, stack := _ :: rest, locked := none }) _
  jvm_step X.here [X.here.top, hx, hd, hm', hret, hn]
  first | (intro acts; rw [hl _ acts rfl rfl rfl]) | rw [hl _ _ rfl rfl rfl]
  exact Steps.refl _
end Own
theorem own_m (u : Int64) : (u &&& (2147483647 : Int64)).toInt = u.toInt % 2147483648 := c_maskL u 2147483647 31 (by decide) (by decide)
theorem own_g0 (u : Int64) : ¬ ((lcmpW (u &&& (2147483647 : Int64)) (0 : Int64)) < (0 : Int32)) := by
  rw [lw_lt, Int64.lt_iff_toInt_lt, own_m]; simp only [Int64.reduceToInt]; omega
theorem own_g1 (u : Int64) : ¬ ((0 : Int32) < (lcmpW (u &&& (2147483647 : Int64)) (2147483647 : Int64))) := by
  rw [lw_gt, Int64.lt_iff_toInt_lt, own_m]; simp only [Int64.reduceToInt]; omega
theorem own_same (u : Int64) : (lcmpW (((u &&& (2147483647 : Int64)).toInt32).toInt64) (u &&& (2147483647 : Int64))) = (0 : Int32) := by
  rw [lw_eq]
  apply Int64.toInt_inj.mp
  rw [c_i2l]
  have h := c_l2i (u &&& 2147483647)
  have r := rng32 ((u &&& 2147483647).toInt32)
  rw [own_m] at h ⊢
  omega
def own_sn (u0 : Int64) : Int32 := (u0.toInt32)
theorem d1_0 : decode prog_40_method_2_code 0 = .ok (.lload_n 0, 1) := by decide +kernel
theorem d1_1 : decode prog_40_method_2_code 1 = .ok (.lconst 0, 1) := by decide +kernel
theorem d1_2 : decode prog_40_method_2_code 2 = .ok (.lcmp, 1) := by decide +kernel
theorem d1_3 : decode prog_40_method_2_code 3 = .ok (.ifCond .lt 11, 3) := by decide +kernel
theorem d1_6 : decode prog_40_method_2_code 6 = .ok (.lload_n 0, 1) := by decide +kernel
theorem d1_7 : decode prog_40_method_2_code 7 = .ok (.ldc2_w 3, 3) := by decide +kernel
theorem d1_10 : decode prog_40_method_2_code 10 = .ok (.lcmp, 1) := by decide +kernel
theorem d1_11 : decode prog_40_method_2_code 11 = .ok (.ifCond .le 17, 3) := by decide +kernel
theorem d1_14 : decode prog_40_method_2_code 14 = .ok (.new 5, 3) := by decide +kernel
theorem d1_17 : decode prog_40_method_2_code 17 = .ok (.dup, 1) := by decide +kernel
theorem d1_18 : decode prog_40_method_2_code 18 = .ok (.lload_n 0, 1) := by decide +kernel
theorem d1_19 : decode prog_40_method_2_code 19 = .ok (.invokedynamic 7, 5) := by decide +kernel
theorem d1_24 : decode prog_40_method_2_code 24 = .ok (.invokespecial 11, 3) := by decide +kernel
theorem d1_27 : decode prog_40_method_2_code 27 = .ok (.athrow, 1) := by decide +kernel
theorem d1_28 : decode prog_40_method_2_code 28 = .ok (.lload_n 0, 1) := by decide +kernel
theorem d1_29 : decode prog_40_method_2_code 29 = .ok (.l2i, 1) := by decide +kernel
theorem d1_30 : decode prog_40_method_2_code 30 = .ok (.ireturn, 1) := by decide +kernel
theorem own_pd0 : parseMethodDescriptor "(J)I" = some ⟨[.long], some .int⟩ := by decide +kernel
theorem own_pn0 : plainName "com/example/wirelace/wirelace/protocol/BatchCond" = true := by first | (simp [plainName, overriddenIn]; done) | decide +kernel
def Q1 (Z : State) (u0 : Int64) (h0 : Heap) (n0 : Nat) (v : Option Value) (h : Heap) (L : List Loc) : Prop := v = some (.int (own_sn u0)) ∧ Fr n0 L ∧ h = h0
theorem ef_1 (m : MethodId) (x0 : Int64) : entryFrame m #[(.long x0)] 2 = mkF m 0 #[.val (.long x0), .second] [] := by first | (simp [entryFrame, mkF, argsToLocals, Value.category]; done) | rfl
set_option maxRecDepth 65536 in
set_option maxHeartbeats 40000000 in
theorem rm1 (l : Launch) (Z : State) (a0 : Array Value) (hw : ∀ d ∈ tables_1, d.before a0 Z = true) (ws : List Jvm.Cond) (u0 : Int64) (h0 : Heap) (n0 : Nat) (Z0 : n0 ≤ h0.size) (hp0 : ¬ ((lcmpW u0 (0 : Int64)) < (0 : Int32))) (hp1 : ¬ ((0 : Int32) < (lcmpW u0 (2147483647 : Int64)))) :
    MetFree l (⟨"com/example/wirelace/wirelace/protocol/BatchCond", "stepNumber", "(J)I"⟩ : MethodName) (head1 (Jvm.Cond.code (⟨"com/example/wirelace/wirelace/protocol/BatchCond", "stepNumber", "(J)I"⟩ : MethodName) prog_40_method_2_code 2 (some .int) :: ws) ({ frames := 0, cells := 0, slots := 0, locals := 0 } : Room)) (fun a U => a = #[(.long u0)] ∧ Z.Warmed39 U.vm ∧ U.heap = h0) (fun _ _ _ _ _ => True) (fun _ U o U' => ∃ v L, o = .returned v ∧ Q1 Z u0 h0 n0 v U'.heap L ∧ FrameEnd U o U' L ({ frames := 0, cells := 0, slots := 0, locals := 0 } : Room).cells ({ frames := 0, cells := 0, slots := 0, locals := 0 } : Room).slots) := by
  refine MetFree.of_bodySF (plainFor_of_name own_pn0) hisR ?_
  intro p e s m args below meth c s₁ Bd hml0 hP hK
  obtain ⟨rfl, hZ, hh⟩ := hP
  have hx := Bd.exec
  have hby := Bd.bytes
  have hml : c.maxLocals = 2 := hml0
  have hown : s.vm.findClass "com/example/wirelace/wirelace/protocol/BatchCond" = some m.cls := findClass_of_methodNamed Bd.named
  have hnm := (name_of_methodNamed Bd.named Bd.method).1
  have X0 : Stand p l e ({ frames := 0, cells := 0, slots := 0, locals := 0 } : Room) s m #[(.long u0)] below meth c s₁ [] 0 0 := Stand.of_body Bd
  have e0 : s₁.heap = h0 := by rw [← hh, Bd.state]; rfl
  have N0 := Fr.nil n0
  refine own_in ?_
  refine own_st (fun _ k => castTop (ef_1 m u0) k) ?_
  have K0 : Keep h0 h0 [] := Keep.refl h0 []
  show own_Go _ _ _ _ (s₁.setTop (mkF m 0 #[.val (.long u0), .second] []))
  refine own_st (fun _ k => XS.lloadN X0.here hx rfl (hb hby d1_0) rfl k) ?_
  show own_Go _ _ _ _ (s₁.setTop (mkF m 1 #[.val (.long u0), .second] [(.long u0)]))
  refine own_st (fun _ k => XS.lconst X0.here hx rfl (hb hby d1_1) k) ?_
  show own_Go _ _ _ _ (s₁.setTop (mkF m 2 #[.val (.long u0), .second] [(.long (0 : Int64)), (.long u0)]))
  refine own_st (fun _ k => XS.lcmp X0.here hx rfl (hb hby d1_2) rfl k) ?_
  show own_Go _ _ _ _ (s₁.setTop (mkF m 3 #[.val (.long u0), .second] [(.int (lcmpW u0 (0 : Int64)))]))
  refine own_st (fun _ k => XS.ifNo X0.here hx rfl (hb hby d1_3) rfl ((if0 _ _).trans (flt (hp0)).1) k) ?_
  show own_Go _ _ _ _ (s₁.setTop (mkF m 6 #[.val (.long u0), .second] []))
  refine own_st (fun _ k => XS.lloadN X0.here hx rfl (hb hby d1_6) rfl k) ?_
  show own_Go _ _ _ _ (s₁.setTop (mkF m 7 #[.val (.long u0), .second] [(.long u0)]))
  refine own_st (fun _ k => X0.ldc2Long hx hown (mvT hZ (hw _ (List.mem_of_getElem? (i := 5) rfl))) (g := (mkF m 7 #[.val (.long u0), .second] [(.long u0)])) rfl (hb hby d1_7) _ k) ?_
  show own_Go _ _ _ _ (s₁.setTop (mkF m 10 #[.val (.long u0), .second] [(.long (2147483647 : Int64)), (.long u0)]))
  refine own_st (fun _ k => XS.lcmp X0.here hx rfl (hb hby d1_10) rfl k) ?_
  show own_Go _ _ _ _ (s₁.setTop (mkF m 11 #[.val (.long u0), .second] [(.int (lcmpW u0 (2147483647 : Int64)))]))
  refine own_st (fun _ k => XS.ifYes X0.here hx rfl (pc0 := 11) (pc' := 28) rfl (hb hby d1_11) rfl ((if0 _ _).trans (flt (hp1)).2.2.2) (by decide) (by decide) k) ?_
  show own_Go _ _ _ _ (s₁.setTop (mkF m 28 #[.val (.long u0), .second] []))
  refine own_st (fun _ k => XS.lloadN X0.here hx rfl (hb hby d1_28) rfl k) ?_
  show own_Go _ _ _ _ (s₁.setTop (mkF m 29 #[.val (.long u0), .second] [(.long u0)]))
  refine own_st (fun _ k => XS.l2i X0.here hx rfl (hb hby d1_29) rfl k) ?_
  show own_Go _ _ _ _ (s₁.setTop (mkF m 30 #[.val (.long u0), .second] [(.int (u0.toInt32))]))
  obtain ⟨fs, hr, hrun, hended, hW, hsame⟩ := X0.leave (v := some (.int (u0.toInt32))) (fun h => by rw [Bd.returns] at h; cases h)
  refine own_out (own_retI X0 hx Bd.returns (hb hby d1_30) hr) ⟨hrun, hended, _, _, rfl, ?_, ⟨_, rfl⟩, hW, hsame.mono (by decide) (by decide)⟩
  show Q1 Z u0 h0 n0 _ s₁.heap _
  have hv : own_sn u0 = (u0.toInt32) := rfl
  exact ⟨by rw [hv], N0, e0⟩
theorem own_pd1 : parseMethodDescriptor "(J)Z" = some ⟨[.long], some .boolean⟩ := by decide +kernel
theorem own_pn1 : plainName "com/example/wirelace/wirelace/protocol/BatchCondStepNumberPinLaw" = true := by first | (simp [plainName, overriddenIn]; done) | decide +kernel
def Q0 (Z : State) (u0 : Int64) (h0 : Heap) (n0 : Nat) (v : Option Value) (h : Heap) (L : List Loc) : Prop := v = some (.int 1) ∧ Fr n0 L
theorem ef_0 (m : MethodId) (x0 : Int64) : entryFrame m #[(.long x0)] maxLocals = mkF m 0 #[.val (.long x0), .second, .unset, .unset, .unset, .unset, .unset] [] := by first | (simp [entryFrame, mkF, argsToLocals, Value.category, maxLocals]; done) | rfl
set_option maxRecDepth 65536 in
set_option maxHeartbeats 40000000 in
theorem rm0 (l : Launch) (Z : State) (a0 : Array Value) (hw : ∀ d ∈ tables_1, d.before a0 Z = true) (ws : List Jvm.Cond) (u0 : Int64) (h0 : Heap) (n0 : Nat) (Z0 : n0 ≤ h0.size)  :
    MetFree l x (head1 (Jvm.Cond.code x code maxLocals ret :: ws) room_1) (fun a U => a = #[(.long u0)] ∧ Z.Warmed39 U.vm ∧ U.heap = h0) (fun _ _ _ _ _ => True) (fun _ U o U' => ∃ v L, o = .returned v ∧ Q0 Z u0 h0 n0 v U'.heap L ∧ FrameEnd U o U' L 0 0) := by
  refine MetFree.of_bodySF (plainFor_of_name own_pn1) hisR ?_
  intro p e s m args below meth c s₁ Bd hml0 hP hK
  obtain ⟨rfl, hZ, hh⟩ := hP
  have hx := Bd.exec
  have hby := Bd.bytes
  have hml : c.maxLocals = 7 := hml0
  have hown : s.vm.findClass "com/example/wirelace/wirelace/protocol/BatchCondStepNumberPinLaw" = some m.cls := findClass_of_methodNamed Bd.named
  have hnm := (name_of_methodNamed Bd.named Bd.method).1
  have X0 : Stand p l e room_1 s m #[(.long u0)] below meth c s₁ [] 0 0 := Stand.of_body Bd
  have e0 : s₁.heap = h0 := by rw [← hh, Bd.state]; rfl
  have N0 := Fr.nil n0
  refine own_in ?_
  refine own_st (fun _ k => castTop (ef_0 m u0) k) ?_
  have K0 : Keep h0 h0 [] := Keep.refl h0 []
  show own_Go _ _ _ _ (s₁.setTop (mkF m 0 #[.val (.long u0), .second, .unset, .unset, .unset, .unset, .unset] []))
  refine own_st (fun _ k => XS.lloadN X0.here hx rfl (hb hby at_0) rfl k) ?_
  show own_Go _ _ _ _ (s₁.setTop (mkF m 1 #[.val (.long u0), .second, .unset, .unset, .unset, .unset, .unset] [(.long u0)]))
  refine own_st (fun _ k => X0.ldc2Long hx hown (mvT hZ (hw _ (List.mem_of_getElem? (i := 0) rfl))) (g := (mkF m 1 #[.val (.long u0), .second, .unset, .unset, .unset, .unset, .unset] [(.long u0)])) rfl (hb hby at_1) _ k) ?_
  show own_Go _ _ _ _ (s₁.setTop (mkF m 4 #[.val (.long u0), .second, .unset, .unset, .unset, .unset, .unset] [(.long (2147483647 : Int64)), (.long u0)]))
  refine own_st (fun _ k => XS.land X0.here hx rfl (hb hby at_4) rfl k) ?_
  show own_Go _ _ _ _ (s₁.setTop (mkF m 5 #[.val (.long u0), .second, .unset, .unset, .unset, .unset, .unset] [(.long (u0 &&& (2147483647 : Int64)))]))
  refine own_st (fun _ k => XS.lstoreN X0.here hx rfl (hb hby at_5) rfl (l' := #[.val (.long u0), .second, .val (.long (u0 &&& (2147483647 : Int64))), .second, .unset, .unset, .unset]) rfl k) ?_
  show own_Go _ _ _ _ (s₁.setTop (mkF m 6 #[.val (.long u0), .second, .val (.long (u0 &&& (2147483647 : Int64))), .second, .unset, .unset, .unset] []))
  refine own_st (fun _ k => XS.lloadN X0.here hx rfl (hb hby at_6) rfl k) ?_
  show own_Go _ _ _ _ (s₁.setTop (mkF m 7 #[.val (.long u0), .second, .val (.long (u0 &&& (2147483647 : Int64))), .second, .unset, .unset, .unset] [(.long (u0 &&& (2147483647 : Int64)))]))
  obtain ⟨_, _, ⟨T1, L1, k1, n1⟩, -, X1, ⟨Lc1, hQ1, l1, y1, z1⟩, st1⟩ := Jvm.LawKit.callS X0 hx (y := (⟨"com/example/wirelace/wirelace/protocol/BatchCond", "stepNumber", "(J)I"⟩ : MethodName)) hown (mvT hZ (hw _ (List.mem_of_getElem? (i := 1) rfl))) (mvT hZ (hw _ (List.mem_of_getElem? (i := 2) rfl))) (mvT hZ (hw _ (List.mem_of_getElem? (i := 3) rfl))) (mvT hZ (hw _ (List.mem_of_getElem? (i := 4) rfl))) (by decide) (backOf (W := 0) (rm1 l Z a0 hw [] (u0 &&& (2147483647 : Int64)) h0 n0 Z0 (own_g0 _) (own_g1 _)) hZ (hw _ (List.mem_of_getElem? (i := 4) rfl)) (hw _ (List.mem_of_getElem? (i := 3) rfl)) (by decide) (by decide)) (g := (mkF m 7 #[.val (.long u0), .second, .val (.long (u0 &&& (2147483647 : Int64))), .second, .unset, .unset, .unset] [(.long (u0 &&& (2147483647 : Int64)))])) rfl (by rw [hml]; rfl) (argsL := [(.long (u0 &&& (2147483647 : Int64)))]) (rest := []) (lenOf own_pd0 rfl) rfl (by show 2 * 0 + _ ≤ _; exact Nat.le_of_eq rfl) (hb hby at_7) (fun _ _ => ⟨rfl, e0, (by decide : 0 + 0 ≤ _), (by decide : 0 + 0 ≤ _)⟩)
  dsimp only [Pt.U, Pt.locs, Pt.cells, Pt.slots] at X1 l1 y1 z1 st1 hQ1
  subst l1 y1 z1
  obtain ⟨rfl, Nq1, eq1⟩ := hQ1
  have N1 := Fr.app N0 Nq1
  refine own_st st1 ?_
  show own_Go _ _ _ _ (T1.setTop (mkF m 10 #[.val (.long u0), .second, .val (.long (u0 &&& (2147483647 : Int64))), .second, .unset, .unset, .unset] [(.int (own_sn (u0 &&& (2147483647 : Int64))))]))
  refine own_st (fun _ k => XS.istore X1.here hx rfl (hb hby at_10) rfl (l' := #[.val (.long u0), .second, .val (.long (u0 &&& (2147483647 : Int64))), .second, .val (.int (own_sn (u0 &&& (2147483647 : Int64)))), .unset, .unset]) rfl k) ?_
  show own_Go _ _ _ _ (T1.setTop (mkF m 12 #[.val (.long u0), .second, .val (.long (u0 &&& (2147483647 : Int64))), .second, .val (.int (own_sn (u0 &&& (2147483647 : Int64)))), .unset, .unset] []))
  refine own_st (fun _ k => XS.lconst X1.here hx rfl (hb hby at_12) k) ?_
  show own_Go _ _ _ _ (T1.setTop (mkF m 13 #[.val (.long u0), .second, .val (.long (u0 &&& (2147483647 : Int64))), .second, .val (.int (own_sn (u0 &&& (2147483647 : Int64)))), .unset, .unset] [(.long (0 : Int64))]))
  obtain ⟨_, _, ⟨T2, L2, k2, n2⟩, -, X2, ⟨Lc2, hQ2, l2, y2, z2⟩, st2⟩ := Jvm.LawKit.callS X1 hx (y := (⟨"com/example/wirelace/wirelace/protocol/BatchCond", "stepNumber", "(J)I"⟩ : MethodName)) hown (mvT hZ (hw _ (List.mem_of_getElem? (i := 1) rfl))) (mvT hZ (hw _ (List.mem_of_getElem? (i := 2) rfl))) (mvT hZ (hw _ (List.mem_of_getElem? (i := 3) rfl))) (mvT hZ (hw _ (List.mem_of_getElem? (i := 4) rfl))) (by decide) (backOf (W := 0) (rm1 l Z a0 hw [] (0 : Int64) h0 n0 Z0 (by decide) (by decide)) hZ (hw _ (List.mem_of_getElem? (i := 4) rfl)) (hw _ (List.mem_of_getElem? (i := 3) rfl)) (by decide) (by decide)) (g := (mkF m 13 #[.val (.long u0), .second, .val (.long (u0 &&& (2147483647 : Int64))), .second, .val (.int (own_sn (u0 &&& (2147483647 : Int64)))), .unset, .unset] [(.long (0 : Int64))])) rfl (by rw [hml]; rfl) (argsL := [(.long (0 : Int64))]) (rest := []) (lenOf own_pd0 rfl) rfl (by show 2 * 0 + _ ≤ _; exact Nat.le_of_eq rfl) (hb hby at_13) (fun _ _ => ⟨rfl, eq1, (by decide : 0 + 0 ≤ _), (by decide : 0 + 0 ≤ _)⟩)
  dsimp only [Pt.U, Pt.locs, Pt.cells, Pt.slots] at X2 l2 y2 z2 st2 hQ2
  subst l2 y2 z2
  obtain ⟨rfl, Nq2, eq2⟩ := hQ2
  have N2 := Fr.app N1 Nq2
  refine own_st st2 ?_
  show own_Go _ _ _ _ (T2.setTop (mkF m 16 #[.val (.long u0), .second, .val (.long (u0 &&& (2147483647 : Int64))), .second, .val (.int (own_sn (u0 &&& (2147483647 : Int64)))), .unset, .unset] [(.int (own_sn (0 : Int64)))]))
  refine own_st (fun _ k => XS.istore X2.here hx rfl (hb hby at_16) rfl (l' := #[.val (.long u0), .second, .val (.long (u0 &&& (2147483647 : Int64))), .second, .val (.int (own_sn (u0 &&& (2147483647 : Int64)))), .val (.int (own_sn (0 : Int64))), .unset]) rfl k) ?_
  show own_Go _ _ _ _ (T2.setTop (mkF m 18 #[.val (.long u0), .second, .val (.long (u0 &&& (2147483647 : Int64))), .second, .val (.int (own_sn (u0 &&& (2147483647 : Int64)))), .val (.int (own_sn (0 : Int64))), .unset] []))
  refine own_st (fun _ k => X2.ldc2Long hx hown (mvT hZ (hw _ (List.mem_of_getElem? (i := 0) rfl))) (g := (mkF m 18 #[.val (.long u0), .second, .val (.long (u0 &&& (2147483647 : Int64))), .second, .val (.int (own_sn (u0 &&& (2147483647 : Int64)))), .val (.int (own_sn (0 : Int64))), .unset] [])) rfl (hb hby at_18) _ k) ?_
  show own_Go _ _ _ _ (T2.setTop (mkF m 21 #[.val (.long u0), .second, .val (.long (u0 &&& (2147483647 : Int64))), .second, .val (.int (own_sn (u0 &&& (2147483647 : Int64)))), .val (.int (own_sn (0 : Int64))), .unset] [(.long (2147483647 : Int64))]))
  obtain ⟨_, _, ⟨T3, L3, k3, n3⟩, -, X3, ⟨Lc3, hQ3, l3, y3, z3⟩, st3⟩ := Jvm.LawKit.callS X2 hx (y := (⟨"com/example/wirelace/wirelace/protocol/BatchCond", "stepNumber", "(J)I"⟩ : MethodName)) hown (mvT hZ (hw _ (List.mem_of_getElem? (i := 1) rfl))) (mvT hZ (hw _ (List.mem_of_getElem? (i := 2) rfl))) (mvT hZ (hw _ (List.mem_of_getElem? (i := 3) rfl))) (mvT hZ (hw _ (List.mem_of_getElem? (i := 4) rfl))) (by decide) (backOf (W := 0) (rm1 l Z a0 hw [] (2147483647 : Int64) h0 n0 Z0 (by decide) (by decide)) hZ (hw _ (List.mem_of_getElem? (i := 4) rfl)) (hw _ (List.mem_of_getElem? (i := 3) rfl)) (by decide) (by decide)) (g := (mkF m 21 #[.val (.long u0), .second, .val (.long (u0 &&& (2147483647 : Int64))), .second, .val (.int (own_sn (u0 &&& (2147483647 : Int64)))), .val (.int (own_sn (0 : Int64))), .unset] [(.long (2147483647 : Int64))])) rfl (by rw [hml]; rfl) (argsL := [(.long (2147483647 : Int64))]) (rest := []) (lenOf own_pd0 rfl) rfl (by show 2 * 0 + _ ≤ _; exact Nat.le_of_eq rfl) (hb hby at_21) (fun _ _ => ⟨rfl, eq2, (by decide : 0 + 0 ≤ _), (by decide : 0 + 0 ≤ _)⟩)
  dsimp only [Pt.U, Pt.locs, Pt.cells, Pt.slots] at X3 l3 y3 z3 st3 hQ3
  subst l3 y3 z3
  obtain ⟨rfl, Nq3, eq3⟩ := hQ3
  have N3 := Fr.app N2 Nq3
  refine own_st st3 ?_
  show own_Go _ _ _ _ (T3.setTop (mkF m 24 #[.val (.long u0), .second, .val (.long (u0 &&& (2147483647 : Int64))), .second, .val (.int (own_sn (u0 &&& (2147483647 : Int64)))), .val (.int (own_sn (0 : Int64))), .unset] [(.int (own_sn (2147483647 : Int64)))]))
  refine own_st (fun _ k => XS.istore X3.here hx rfl (hb hby at_24) rfl (l' := #[.val (.long u0), .second, .val (.long (u0 &&& (2147483647 : Int64))), .second, .val (.int (own_sn (u0 &&& (2147483647 : Int64)))), .val (.int (own_sn (0 : Int64))), .val (.int (own_sn (2147483647 : Int64)))]) rfl k) ?_
  show own_Go _ _ _ _ (T3.setTop (mkF m 26 #[.val (.long u0), .second, .val (.long (u0 &&& (2147483647 : Int64))), .second, .val (.int (own_sn (u0 &&& (2147483647 : Int64)))), .val (.int (own_sn (0 : Int64))), .val (.int (own_sn (2147483647 : Int64)))] []))
  refine own_st (fun _ k => XS.iload X3.here hx rfl (hb hby at_26) rfl k) ?_
  show own_Go _ _ _ _ (T3.setTop (mkF m 28 #[.val (.long u0), .second, .val (.long (u0 &&& (2147483647 : Int64))), .second, .val (.int (own_sn (u0 &&& (2147483647 : Int64)))), .val (.int (own_sn (0 : Int64))), .val (.int (own_sn (2147483647 : Int64)))] [(.int (own_sn (u0 &&& (2147483647 : Int64))))]))
  refine own_st (fun _ k => XS.i2l X3.here hx rfl (hb hby at_28) rfl k) ?_
  show own_Go _ _ _ _ (T3.setTop (mkF m 29 #[.val (.long u0), .second, .val (.long (u0 &&& (2147483647 : Int64))), .second, .val (.int (own_sn (u0 &&& (2147483647 : Int64)))), .val (.int (own_sn (0 : Int64))), .val (.int (own_sn (2147483647 : Int64)))] [(.long ((own_sn (u0 &&& (2147483647 : Int64))).toInt64))]))
  refine own_st (fun _ k => XS.lloadN X3.here hx rfl (hb hby at_29) rfl k) ?_
  show own_Go _ _ _ _ (T3.setTop (mkF m 30 #[.val (.long u0), .second, .val (.long (u0 &&& (2147483647 : Int64))), .second, .val (.int (own_sn (u0 &&& (2147483647 : Int64)))), .val (.int (own_sn (0 : Int64))), .val (.int (own_sn (2147483647 : Int64)))] [(.long (u0 &&& (2147483647 : Int64))), (.long ((own_sn (u0 &&& (2147483647 : Int64))).toInt64))]))
  refine own_st (fun _ k => XS.lcmp X3.here hx rfl (hb hby at_30) rfl k) ?_
  show own_Go _ _ _ _ (T3.setTop (mkF m 31 #[.val (.long u0), .second, .val (.long (u0 &&& (2147483647 : Int64))), .second, .val (.int (own_sn (u0 &&& (2147483647 : Int64)))), .val (.int (own_sn (0 : Int64))), .val (.int (own_sn (2147483647 : Int64)))] [(.int (lcmpW ((own_sn (u0 &&& (2147483647 : Int64))).toInt64) (u0 &&& (2147483647 : Int64))))]))
  refine own_st (fun _ k => XS.ifNo X3.here hx rfl (hb hby at_31) rfl ((if0 _ _).trans (teq (by unfold own_sn; exact own_same _)).2) k) ?_
  show own_Go _ _ _ _ (T3.setTop (mkF m 34 #[.val (.long u0), .second, .val (.long (u0 &&& (2147483647 : Int64))), .second, .val (.int (own_sn (u0 &&& (2147483647 : Int64)))), .val (.int (own_sn (0 : Int64))), .val (.int (own_sn (2147483647 : Int64)))] []))
  refine own_st (fun _ k => XS.iload X3.here hx rfl (hb hby at_34) rfl k) ?_
  show own_Go _ _ _ _ (T3.setTop (mkF m 36 #[.val (.long u0), .second, .val (.long (u0 &&& (2147483647 : Int64))), .second, .val (.int (own_sn (u0 &&& (2147483647 : Int64)))), .val (.int (own_sn (0 : Int64))), .val (.int (own_sn (2147483647 : Int64)))] [(.int (own_sn (0 : Int64)))]))
  refine own_st (fun _ k => XS.ifNo X3.here hx rfl (hb hby at_36) rfl ((if0 _ _).trans (teq (by unfold own_sn; decide)).2) k) ?_
  show own_Go _ _ _ _ (T3.setTop (mkF m 39 #[.val (.long u0), .second, .val (.long (u0 &&& (2147483647 : Int64))), .second, .val (.int (own_sn (u0 &&& (2147483647 : Int64)))), .val (.int (own_sn (0 : Int64))), .val (.int (own_sn (2147483647 : Int64)))] []))
  refine own_st (fun _ k => XS.iload X3.here hx rfl (hb hby at_39) rfl k) ?_
  show own_Go _ _ _ _ (T3.setTop (mkF m 41 #[.val (.long u0), .second, .val (.long (u0 &&& (2147483647 : Int64))), .second, .val (.int (own_sn (u0 &&& (2147483647 : Int64)))), .val (.int (own_sn (0 : Int64))), .val (.int (own_sn (2147483647 : Int64)))] [(.int (own_sn (2147483647 : Int64)))]))
  refine own_st (fun _ k => X3.ldcInt hx hown (mvT hZ (hw _ (List.mem_of_getElem? (i := 6) rfl))) (g := (mkF m 41 #[.val (.long u0), .second, .val (.long (u0 &&& (2147483647 : Int64))), .second, .val (.int (own_sn (u0 &&& (2147483647 : Int64)))), .val (.int (own_sn (0 : Int64))), .val (.int (own_sn (2147483647 : Int64)))] [(.int (own_sn (2147483647 : Int64)))])) rfl (hb hby at_41) _ k) ?_
  show own_Go _ _ _ _ (T3.setTop (mkF m 43 #[.val (.long u0), .second, .val (.long (u0 &&& (2147483647 : Int64))), .second, .val (.int (own_sn (u0 &&& (2147483647 : Int64)))), .val (.int (own_sn (0 : Int64))), .val (.int (own_sn (2147483647 : Int64)))] [(.int (2147483647 : Int32)), (.int (own_sn (2147483647 : Int64)))]))
  refine own_st (fun _ k => XS.icmpNo X3.here hx rfl (hb hby at_43) rfl (teq (by unfold own_sn; decide)).2 k) ?_
  show own_Go _ _ _ _ (T3.setTop (mkF m 46 #[.val (.long u0), .second, .val (.long (u0 &&& (2147483647 : Int64))), .second, .val (.int (own_sn (u0 &&& (2147483647 : Int64)))), .val (.int (own_sn (0 : Int64))), .val (.int (own_sn (2147483647 : Int64)))] []))
  refine own_st (fun _ k => XS.iconst X3.here hx rfl (hb hby at_46) k) ?_
  show own_Go _ _ _ _ (T3.setTop (mkF m 47 #[.val (.long u0), .second, .val (.long (u0 &&& (2147483647 : Int64))), .second, .val (.int (own_sn (u0 &&& (2147483647 : Int64)))), .val (.int (own_sn (0 : Int64))), .val (.int (own_sn (2147483647 : Int64)))] [(.int (1 : Int32))]))
  refine own_st (fun _ k => XS.goto X3.here hx rfl (pc0 := 47) (pc' := 51) rfl (hb hby at_47) (by decide) (by decide) k) ?_
  show own_Go _ _ _ _ (T3.setTop (mkF m 51 #[.val (.long u0), .second, .val (.long (u0 &&& (2147483647 : Int64))), .second, .val (.int (own_sn (u0 &&& (2147483647 : Int64)))), .val (.int (own_sn (0 : Int64))), .val (.int (own_sn (2147483647 : Int64)))] [(.int (1 : Int32))]))
  obtain ⟨fs, hr, hrun, hended, hW, hsame⟩ := X3.leave (v := some (.int (1 : Int32))) (fun h => by rw [Bd.returns] at h; cases h)
  refine own_out (retN X3 hx (t := .boolean) Bd.returns (by simp) (hb hby at_51) hr) ⟨hrun, hended, _, _, rfl, ?_, ⟨_, rfl⟩, hW, hsame.mono (by decide) (by decide)⟩
  show Q0 Z u0 h0 n0 _ T3.heap _
  exact ⟨rfl, N3⟩
set_option maxRecDepth 65536 in
set_option maxHeartbeats 40000000 in
theorem comes_1 {Post : Tables → Env → Array Value → State → Outcome → State → Prop} (hpost : ∀ tb e args s v u, (limb_1_1.after args s (.returned v) u = true ∧ limb_1_2.after args s (.returned v) u = true ∧ True) → FrameEnd s (.returned v) u (Jvm.fieldLocs frame_1_writes args s ++ Jvm.arrayLocs frame_1_arrays args s ++ Jvm.staticLocs frame_1_statics s) 0 0 → Post tb e args s (.returned v) u) :
    ArmFor flags0 classFile x code maxLocals ret World_1 tables_1 room_1 Calls_1 rest_1 Pre_1 Post := by
  intro l hfl _ _ p e ha hc hk s m args below hf hA hF happ hP
  obtain ⟨hcalls, hrest, hpre⟩ := hP
  obtain ⟨-, -, -, hnamed, -, -, -, hat⟩ := (Spec.applies_iff hf).mp happ
  obtain ⟨hg, hn⟩ := and_e (Cond.before_iff.mp (show (Jvm.Cond.and given_1 narrow_1).before args s = true from hpre))
  obtain ⟨h1, h2⟩ := and_e hg
  have ha0 := h2
  obtain ⟨w0, rfl⟩ : ∃ w0 : Value, args = #[w0] := by
    have hs : args.size = 1 := by simpa [Cond.value, given_1] using h1
    obtain ⟨L⟩ := args
    match L, hs with
    | [w0], _ => exact ⟨w0, rfl⟩
  have hw := fun d (hd : d ∈ tables_1) => atoms_spec (ws := Jvm.Cond.code x code maxLocals ret :: tables_1) hat d (List.mem_cons_of_mem _ hd)
  obtain ⟨i0, ei0⟩ := isL_v ha0
  obtain rfl : w0 = (.long i0) := Option.some.inj ei0
  obtain ⟨n, o, h1, h2, h3, _, L, rfl, ⟨rfl, N⟩, hq⟩ := rm0 l s _ hw tables_1 i0 s.heap s.heap.size (Nat.le_refl _)  p e ha hc hk s m _ below hf ((Spec.applies_iff_loose hf).mp happ).1 ⟨rfl, State.Warmed39.refl s, rfl⟩ trivial
  refine ⟨n, _, h1, h2, h3, hpost _ _ _ _ _ _ ⟨Cond.after_iff.mpr rfl, Cond.after_iff.mpr (eq_i res_at (Term.int_eval (1)) rfl), trivial⟩ ⟨hq.1, hq.2.1, (hq.2.2.sift fun y hy => Or.inr (N y hy)).mono (by decide) (by decide)⟩⟩
theorem main_1_1 : Claimed_1_1 := comes_1 fun _ _ _ _ _ _ h hF => ⟨h.1, hF⟩
theorem main_1_2 : Claimed_1_2 := comes_1 fun _ _ _ _ _ _ h hF => ⟨h.2.1, hF⟩
end Jvm.Pilot.@@N@@
namespace Jvm.Pilot.@@N@@
open Jvm Jvm.ClassFile Sem Op Lib Jvm.Free Jvm.Stand Jvm.Pilot.@@N@@.Jvm.D
/-! MADE BY PROGRAM (witnessworld.py) out of the Statement's table words and the real class files: 9 classes; the members and pool entries that the words name. The judged class is class 1, her method 1. -/
namespace start1
open Jvm.ClassFile
def u (s : String) : CpInfo := .utf8 (stringToUtf16 s)
/-- a pool by its gaps: so many unusable entries, then the entry; so many at the end -/
def gap : Nat → List CpInfo → List CpInfo
  | 0, r => r
  | n + 1, r => .unusable :: gap n r
def poolList (es : List (Nat × CpInfo)) (last : Nat) : List CpInfo := es.foldr (fun e r => gap e.1 (e.2 :: r)) (gap last [])
def pool (es : List (Nat × CpInfo)) (last : Nat) : Array CpInfo := ⟨poolList es last⟩
def fileOf (pool : Array CpInfo) (this : Nat) (attrs : Array Attribute := #[]) (ms : Array MethodInfo := #[]) (fl : Nat := 33) (sup : Nat := 0) (ifs : Array Nat := #[]) (fds : Array FieldInfo := #[]) : ClassFile where
  minorVersion := 0
  majorVersion := 65
  constantPool := pool
  accessFlags := fl
  thisClass := this
  superClass := sup
  interfaces := ifs
  fields := fds
  methods := ms
  attributes := attrs
def plain (name : String) (sup : Option ClassId) : Class where
  name := name
  kind := .ordinary
  loader := none
  accessFlags := 33
  super := sup
  interfaces := #[]
  cf := none
  fields := #[]
  methods := #[]
  instanceTypes := #[]
  staticTypes := #[]
  resolved := #[]
  callSites := []
  init := .initialized
  statics := none
  mirror := none

def pool0 : Array CpInfo := pool [(5, u "<init>"), (0, u "()V"), (1, .class_ 10), (1, u "java/lang/Object")] 113

def k0m0 : Method := { name := "<init>", desc := "()V", sig := { parameters := [], returnType := none }, accessFlags := 1, code := none }
/-- java/lang/Object -/
def k0 : Class := { plain "java/lang/Object" none with
  accessFlags := 33
  interfaces := #[]
  cf := some (fileOf pool0 8 #[] #[{ accessFlags := 1, nameIndex := 5, descriptorIndex := 6, attributes := #[] }] 33 0 #[] #[])
  fields := #[]
  methods := #[k0m0]
  instanceTypes := #[]
  staticTypes := #[]
  resolved := Array.replicate 124 none
  statics := none }

def pool1 : Array CpInfo := pool [(2, .class_ 4), (1, u "java/lang/Object"), (0, u "<init>"), (0, u "()V"), (0, .long 2147483647), (1, .interfaceMethodref 10 11), (0, .class_ 12), (0, .nameAndType 13 14), (0, u "com/example/wirelace/wirelace/protocol/BatchCond"), (0, u "stepNumber"), (0, u "(J)I"), (2, .integer 2147483647), (0, .class_ 19), (0, u "com/example/wirelace/wirelace/protocol/BatchCondStepNumberPinLaw"), (2, u "law"), (0, u "(J)Z")] 3

def k1m0 : Method := { name := "<init>", desc := "()V", sig := { parameters := [], returnType := none }, accessFlags := 2, code := none }
def k1c1 : Code := { maxStack := 4, maxLocals := 7, code := code, exceptionTable := #[], attributes := #[] }
def k1m1 : Method := { name := "law", desc := "(J)Z", sig := { parameters := [.long], returnType := some .boolean }, accessFlags := 9, code := some k1c1 }
/-- com/example/wirelace/wirelace/protocol/BatchCondStepNumberPinLaw -/
def k1 : Class := { plain "com/example/wirelace/wirelace/protocol/BatchCondStepNumberPinLaw" (some 0) with
  accessFlags := 49
  interfaces := #[]
  cf := some (fileOf pool1 18 #[] #[{ accessFlags := 2, nameIndex := 5, descriptorIndex := 6, attributes := #[] }, { accessFlags := 9, nameIndex := 22, descriptorIndex := 23, attributes := #[] }] 49 2 #[] #[])
  fields := #[]
  methods := #[k1m0, k1m1]
  instanceTypes := #[]
  staticTypes := #[]
  resolved := Array.replicate 27 none
  statics := none }

def pool2 : Array CpInfo := pool [(3, .long 2147483647), (39, .class_ 44), (0, u "com/example/wirelace/wirelace/protocol/BatchCond"), (0, .class_ 46), (0, u "java/lang/Object"), (2, u "stepNumber"), (0, u "(J)I"), (10, .class_ 62), (0, u "com/example/wirelace/wirelace/protocol/BatchCond$IsAutocommit"), (0, .class_ 64), (0, u "com/example/wirelace/wirelace/protocol/BatchCond$Or"), (0, .class_ 66), (0, u "com/example/wirelace/wirelace/protocol/BatchCond$And"), (0, .class_ 68), (0, u "com/example/wirelace/wirelace/protocol/BatchCond$Not"), (0, .class_ 70), (0, u "com/example/wirelace/wirelace/protocol/BatchCond$Error"), (0, .class_ 72), (0, u "com/example/wirelace/wirelace/protocol/BatchCond$Ok")] 36

def k2c0 : Code := { maxStack := 4, maxLocals := 2, code := prog_40_method_2_code, exceptionTable := #[], attributes := #[] }
def k2m0 : Method := { name := "stepNumber", desc := "(J)I", sig := { parameters := [.long], returnType := some .int }, accessFlags := 9, code := some k2c0 }
/-- com/example/wirelace/wirelace/protocol/BatchCond -/
def k2 : Class := { plain "com/example/wirelace/wirelace/protocol/BatchCond" (some 0) with
  accessFlags := 1537
  interfaces := #[]
  cf := some (fileOf pool2 43 #[.nestMembers #[61, 63, 65, 67, 69, 71]] #[{ accessFlags := 9, nameIndex := 49, descriptorIndex := 50, attributes := #[] }] 1537 45 #[] #[])
  fields := #[]
  methods := #[k2m0]
  instanceTypes := #[]
  staticTypes := #[]
  resolved := Array.replicate 109 none
  statics := none }

def pool3 : Array CpInfo := pool [(1, u "java/lang/Cloneable"), (0, .class_ 1), (0, u "java/lang/Object"), (0, .class_ 3)] 3

/-- java/lang/Cloneable -/
def k3 : Class := { plain "java/lang/Cloneable" (some 0) with
  accessFlags := 1537
  interfaces := #[]
  cf := some (fileOf pool3 2 #[] #[] 1537 4 #[] #[])
  fields := #[]
  methods := #[]
  instanceTypes := #[]
  staticTypes := #[]
  resolved := Array.replicate 8 none
  statics := none }

def pool4 : Array CpInfo := pool [(1, u "java/io/Serializable"), (0, .class_ 1), (0, u "java/lang/Object"), (0, .class_ 3)] 3

/-- java/io/Serializable -/
def k4 : Class := { plain "java/io/Serializable" (some 0) with
  accessFlags := 1537
  interfaces := #[]
  cf := some (fileOf pool4 2 #[] #[] 1537 4 #[] #[])
  fields := #[]
  methods := #[]
  instanceTypes := #[]
  staticTypes := #[]
  resolved := Array.replicate 8 none
  statics := none }

/-- the primitive byte -/
def k5 : Class := { plain "byte" none with kind := .primitive 'B', accessFlags := 0x411 }
/-- [B -/
def k6 : Class := { plain "[B" (some 0) with kind := .array 5 .byte, interfaces := #[3, 4], accessFlags := 1041 }

/-- the primitive int -/
def k7 : Class := { plain "int" none with kind := .primitive 'I', accessFlags := 0x411 }
/-- [I -/
def k8 : Class := { plain "[I" (some 0) with kind := .array 7 .int, interfaces := #[3, 4], accessFlags := 1041 }

def heap : Heap := #[]
def classes : Array Class := #[k0, k1, k2, k3, k4, k5, k6, k7, k8]
def interned : List (Array UInt16 × Addr) := []
def slotsUsed : Nat := 0
def theMethod : MethodId := ⟨1, 1⟩
def args0 : Array Value := #[.long 5]
def aboutOver (below : List Frame) : State where
  vm := { classes := classes, interned := interned.toArray }
  heap := heap
  slotsUsed := slotsUsed
  threads := #[{ frames := .invoking theMethod args0 :: below }]
def below0 : List Frame := [.native { method := ⟨0, 0⟩, args := #[] }]
def about1 : State := aboutOver below0
def p0 : Program := .bare "" "" ""
def e0 : Env := launch0.env 0 0 0
theorem w_frames : about1.frames = Frame.invoking theMethod args0 :: below0 := rfl
set_option maxRecDepth 65536 in
theorem w_args : argsFit about1.vm theMethod args0 = true := by decide +kernel
set_option maxRecDepth 65536 in
theorem w_heap : heapFits about1 = true := by decide +kernel
set_option maxRecDepth 65536 in
theorem w_runnable : about1.curStatus? = some .runnable := by decide +kernel
set_option maxRecDepth 65536 in
theorem w_alone : about1.alone = true := by decide +kernel
set_option maxRecDepth 65536 in
theorem w_named : about1.methodNamed? x = some theMethod := by decide +kernel
set_option maxRecDepth 65536 in
theorem w_hears : about1.hears theMethod below0 = true := by decide +kernel
set_option maxRecDepth 65536 in
theorem w_ripe : about1.ripe theMethod args0 below0 = true := by decide +kernel
theorem w_running : about1.status = .running := rfl
set_option maxRecDepth 65536 in
theorem w_room : about1.hasRoom e0.platform room_1 = true :=
  launch0.hasRoom_least _ room_1 (by decide +kernel) (by decide +kernel) (by decide +kernel) (by decide +kernel) (by decide +kernel) (by decide +kernel)
theorem allAtoms_all (ts : List Jvm.Cond) (a : Array Jvm.Value) (st : Jvm.State) : (allAtoms ts).before a st = ts.all (fun c => c.before a st) := by
  induction ts with
  | nil => rfl
  | cons c t ih =>
    show (Jvm.Cond.and c (allAtoms t)).before a st = _
    rw [Jvm.Cond.before_and, ih, List.all_cons]
def words1 : List Jvm.Cond := Jvm.Cond.code x code maxLocals ret :: tables_1
/-- a 'code' word, met by the world's own term for the bytes: nothing is compared byte by byte -/
theorem code_word {y : MethodName} {bytes : ByteArray} {mx : Nat} {rt : Option FieldType} {a : Array Value} {s : State} {m : MethodId} {meth : Method} {c : Code} (h1 : s.methodNamed? y = some m) (h2 : s.vm.method? m = some meth) (h3 : meth.code = some c) (h4 : c.code = bytes)
    (h5 : (c.maxLocals == mx && c.exceptionTable.isEmpty && decide (c.maxStack ≤ mostOperands) && decide (meth.sig.returnType = rt) && !meth.locks && decide (parseMethodDescriptor y.desc = some meth.sig)) = true) : (Jvm.Cond.code y bytes mx rt).before a s = true := by
  simp only [Bool.and_eq_true, beq_iff_eq, Bool.not_eq_true', decide_eq_true_eq] at h5
  obtain ⟨⟨⟨⟨⟨g1, g2⟩, g3⟩, g4⟩, g5⟩, g6⟩ := h5
  simp [Cond.before, Cond.holds, Cond.value, h1, h2, h3, h4, g1, g2, g3, g4, g5, g6]
def isCode : Jvm.Cond → Bool
  | .code _ _ _ _ => true
  | _ => false
theorem all_split {L : List Jvm.Cond} {P : Jvm.Cond → Bool} (h1 : L.all (fun c => isCode c || P c) = true) (h2 : ∀ c ∈ L.filter isCode, P c = true) : L.all P = true := by
  refine List.all_eq_true.mpr fun c hc => ?_
  have h := List.all_eq_true.mp h1 c hc
  rcases Bool.eq_false_or_eq_true (isCode c) with hi | hi
  · exact h2 c (List.mem_filter.mpr ⟨hc, hi⟩)
  · simpa [hi] using h
set_option maxRecDepth 65536 in
theorem w_c0 : (Jvm.Cond.code x code maxLocals ret).before args0 about1 = true := code_word (m := ⟨1, 1⟩) (meth := k1m1) (c := k1c1) (by decide +kernel) rfl rfl rfl (by decide +kernel)
set_option maxRecDepth 65536 in
theorem w_c1 : (Jvm.Cond.code ({ cls := "com/example/wirelace/wirelace/protocol/BatchCond", name := "stepNumber", desc := "(J)I" } : Jvm.MethodName) prog_40_method_2_code (2 : Nat) (Option.some Jvm.ClassFile.FieldType.int)).before args0 about1 = true := code_word (m := ⟨2, 0⟩) (meth := k2m0) (c := k2c0) (by decide +kernel) rfl rfl rfl (by decide +kernel)
def codes1 : List Jvm.Cond := [Jvm.Cond.code x code maxLocals ret, Jvm.Cond.code ({ cls := "com/example/wirelace/wirelace/protocol/BatchCond", name := "stepNumber", desc := "(J)I" } : Jvm.MethodName) prog_40_method_2_code (2 : Nat) (Option.some Jvm.ClassFile.FieldType.int)]
set_option maxRecDepth 65536 in
theorem codes_eq : words1.filter isCode = codes1 := rfl
theorem w_codes : ∀ c ∈ words1.filter isCode, c.before args0 about1 = true := by
  rw [codes_eq]
  intro c hc
  simp only [codes1, List.mem_cons, List.not_mem_nil, or_false] at hc
  rcases hc with rfl | rfl
  · exact w_c0
  · exact w_c1
set_option maxRecDepth 65536 in
theorem w_t1 : words1.all (fun c => isCode c || c.before args0 about1) = true := by decide +kernel
theorem w_tables : (allAtoms (Jvm.Cond.code x code maxLocals ret :: tables_1)).before args0 about1 = true := by
  rw [allAtoms_all]
  show words1.all (fun c => c.before args0 about1) = true
  refine all_split ?_ w_codes
  rw [w_t1]
set_option maxRecDepth 65536 in
theorem w_case : (Jvm.Cond.and given_1 narrow_1).before args0 about1 = true := by decide +kernel
theorem w_applies : (headSpec (Jvm.Cond.code x code maxLocals ret :: tables_1) room_1).applies x e0.platform about1 = true :=
  (Spec.applies_iff w_frames).mpr ⟨w_running, w_runnable, w_alone, w_named, w_hears, w_ripe, w_room, w_tables⟩
theorem atStart : AtStart classFile x code maxLocals ret World_1 tables_1 room_1 Calls_1 rest_1 Pre_1 launch0 p0 e0 about1 theMethod args0 below0 :=
  ⟨lists_1, trivial, launch0.admits_env _ _ _, launch0.least_env, fairChoices_fair.cas, fairChoices_fair.clock, w_frames, w_args, w_heap, w_applies, trivial, trivial, w_case⟩
end start1
theorem witness_1 : WitnessClaimed_1 := ⟨start1.p0, start1.e0, start1.about1, start1.theMethod, start1.args0, start1.below0, start1.atStart⟩
end Jvm.Pilot.@@N@@
