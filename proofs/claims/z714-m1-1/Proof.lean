import JvmDerived
import JvmDerived.Pilot.@@N@@Statement
import JvmDerived.Pilot.@@N@@Code
set_option linter.unusedVariables false
set_option linter.unusedSimpArgs false
namespace Jvm.Pilot.@@N@@
open Jvm Jvm.ClassFile Sem Op Lib Jvm.Free Jvm.Stand Jvm.LawKit Jvm.RoadKit Bundle Jvm.Pilot.@@N@@.Jvm.D
def own_Go (tb : Tables) (e : Env) (below : List Frame) (P : State → Outcome → Prop) (A : State) : Prop := ∃ s₂ o, Steps tb e below A s₂ ∧ P s₂ o
theorem own_in {tb : Tables} {e : Env} {below : List Frame} {P : State → Outcome → Prop} {A : State} (h : own_Go tb e below P A) : ∃ s₂ o, Steps tb e below A s₂ ∧ P s₂ o := h
theorem own_st {tb : Tables} {e : Env} {below : List Frame} {P : State → Outcome → Prop} {A B : State} (h : ∀ t, Steps tb e below B t → Steps tb e below A t) (k : own_Go tb e below P B) : own_Go tb e below P A := by
  obtain ⟨s₂, o, h1, h2⟩ := k
  exact ⟨s₂, o, h _ h1, h2⟩
theorem own_tr {tb : Tables} {e : Env} {below : List Frame} {P : State → Outcome → Prop} {A B : State} (h : Steps tb e below A B) (k : own_Go tb e below P B) : own_Go tb e below P A := by
  obtain ⟨s₂, o, h1, h2⟩ := k
  exact ⟨s₂, o, h.trans h1, h2⟩
theorem own_out {tb : Tables} {e : Env} {below : List Frame} {P : State → Outcome → Prop} {A B : State} {o : Outcome} (h : Steps tb e below A B) (k : P B o) : own_Go tb e below P A := ⟨B, o, h, k⟩
theorem own_join {ι : Type} {tb : Tables} {e : Env} {below : List Frame} {P : State → Outcome → Prop} {A : State} (B : ι → State) (K : ι → Prop) (hJ : ∀ b, K b → own_Go tb e below P (B b)) (h : (∀ b, K b → own_Go tb e below P (B b)) → own_Go tb e below P A) : own_Go tb e below P A := h hJ
theorem own_cast {tb : Tables} {e : Env} {below : List Frame} {P : State → Outcome → Prop} {A B : State} (q : A = B) (k : own_Go tb e below P B) : own_Go tb e below P A := q ▸ k
section Own
variable {p : Program} {l : Launch} {e : Env} {R : Room} {s : State} {m : MethodId} {args : Array Value} {below : List Frame} {meth : Method} {c : Code} {T : State} {locs : List Loc} {cells slots : Nat}
theorem own_retI (X : Stand p l e R s m args below meth c T locs cells slots) (hx : p.tables.exec = Jvm.exec) {pc : Nat} {Ls : Array Slot} {z : Int32} {rest : List Value} (hret : meth.sig.returnType = some .int) (hd : decode c.code pc = .ok (.ireturn, 1)) {fs : List Frame}
    (hl : ∀ (f : JFrame) (acts : List Action), f.method = m → f.locked = none → f.entered = [] → (doReturn e (T.setTop f) acts (some (.int z))).1 = T.setFrames fs) : Steps p.tables e below (T.setTop (mkF m pc Ls (.int z :: rest))) (T.setFrames fs) := by
  have hm' : T.vm.method? m = some meth := X.method'
  have hn : narrow .int (.int z) = .int z := rfl
  show Steps p.tables e below (T.setTop { method := m, pc := pc, locals := Ls, stack := _ :: rest, locked := none }) _
  jvm_step X.here [X.here.top, hx, hd, hm', hret, hn]
  first | (intro acts; rw [hl _ acts rfl rfl rfl]) | rw [hl _ _ rfl rfl rfl]
  exact Steps.refl _
end Own
theorem own_getD (bs : List Int32) (k : Nat) : (bs.map Value.int).getD k (.int (0 : Int32)) = .int (bs.getD k 0) := by
  simp only [List.getD_eq_getElem?_getD, List.getElem?_map]
  cases bs[k]? <;> rfl
def own_cat (bs : List Int32) (j : Int32) : Int32 := nar .char (nar .char (((bs.getD j.toNatClampNeg 0) &&& (255 : Int32)).toUInt32.toUInt16.toUInt32.toInt32))
theorem d2_0 : decode jdk_42_method_154_code 0 = .ok (.getstatic 38, 3) := by decide +kernel
theorem d2_3 : decode jdk_42_method_154_code 3 = .ok (.ifCond .eq 14, 3) := by decide +kernel
theorem d2_6 : decode jdk_42_method_154_code 6 = .ok (.aload_n 0, 1) := by decide +kernel
theorem d2_7 : decode jdk_42_method_154_code 7 = .ok (.getfield 15, 3) := by decide +kernel
theorem d2_10 : decode jdk_42_method_154_code 10 = .ok (.ifCond .ne 7, 3) := by decide +kernel
theorem d2_13 : decode jdk_42_method_154_code 13 = .ok (.iconst 1, 1) := by decide +kernel
theorem d2_14 : decode jdk_42_method_154_code 14 = .ok (.goto 4, 3) := by decide +kernel
theorem d2_17 : decode jdk_42_method_154_code 17 = .ok (.iconst 0, 1) := by decide +kernel
theorem d2_18 : decode jdk_42_method_154_code 18 = .ok (.ireturn, 1) := by decide +kernel
theorem own_pd0 : parseMethodDescriptor "()Z" = some ⟨[], some .boolean⟩ := by decide +kernel
theorem own_pn0 : plainName "java/lang/String" = true := by first | (simp [plainName, overriddenIn]; done) | decide +kernel
def Q2 (Z : State) (ob : Addr) (G1 : Int32) (h0 : Heap) (n0 : Nat) (v : Option Value) (h : Heap) (L : List Loc) : Prop := v = some (.int (1 : Int32)) ∧ Fr n0 L ∧ h = h0
theorem ef_2 (m : MethodId) (x0 : Addr) : entryFrame m #[(.ref x0)] 1 = mkF m 0 #[.val (.ref x0)] [] := by first | (simp [entryFrame, mkF, argsToLocals, Value.category]; done) | rfl
set_option maxRecDepth 65536 in
set_option maxHeartbeats 40000000 in
theorem rm2 (l : Launch) (Z : State) (a0 : Array Value) (hw : ∀ d ∈ tables_1, d.before a0 Z = true) (ws : List Jvm.Cond) (ob : Addr) (G1 : Int32) (h0 : Heap) (n0 : Nat) (Z0 : n0 ≤ h0.size) (S1 : Sta Z h0 "java/lang/String" "COMPACT_STRINGS" "Z" (.int G1)) (hG : ¬ (G1 = (0 : Int32))) (F_coder : Fld Z h0 ob "java/lang/String" "coder" "B" (.int (0 : Int32))) :
    MetFree l (⟨"java/lang/String", "isLatin1", "()Z"⟩ : MethodName) (head1 (Jvm.Cond.code (⟨"java/lang/String", "isLatin1", "()Z"⟩ : MethodName) jdk_42_method_154_code 1 (some .boolean) :: ws) ({ frames := 0, cells := 0, slots := 0, locals := 0 } : Room)) (fun a U => a = #[(.ref ob)] ∧ Z.Warmed39 U.vm ∧ U.heap = h0) (fun _ _ _ _ _ => True) (fun _ U o U' => ∃ v L, o = .returned v ∧ Q2 Z ob G1 h0 n0 v U'.heap L ∧ FrameEnd U o U' L ({ frames := 0, cells := 0, slots := 0, locals := 0 } : Room).cells ({ frames := 0, cells := 0, slots := 0, locals := 0 } : Room).slots) := by
  refine MetFree.of_bodySF (plainFor_of_name own_pn0) hisR ?_
  intro p e s m args below meth c s₁ Bd hml0 hP hK
  obtain ⟨rfl, hZ, hh⟩ := hP
  have hx := Bd.exec
  have hby := Bd.bytes
  have hml : c.maxLocals = 1 := hml0
  have hown : s.vm.findClass "java/lang/String" = some m.cls := findClass_of_methodNamed Bd.named
  have hnm := (name_of_methodNamed Bd.named Bd.method).1
  have X0 : Stand p l e ({ frames := 0, cells := 0, slots := 0, locals := 0 } : Room) s m #[(.ref ob)] below meth c s₁ [] 0 0 := Stand.of_body Bd
  have e0 : s₁.heap = h0 := by rw [← hh, Bd.state]; rfl
  have N0 := Fr.nil n0
  refine own_in ?_
  refine own_st (fun _ k => castTop (ef_2 m ob) k) ?_
  have K0 : Keep h0 h0 [] := Keep.refl h0 []
  show own_Go _ _ _ _ (s₁.setTop (mkF m 0 #[.val (.ref ob)] []))
  obtain ⟨T1, X1, e1, st1⟩ := getS2 X0 hx hZ hown (host := "") (Or.inl (hw _ (List.mem_of_getElem? (i := 18) rfl))) Via.refl e0 S1 (g := (mkF m 0 #[.val (.ref ob)] [])) rfl (hb hby d2_0)
  refine own_st st1 ?_
  show own_Go _ _ _ _ (T1.setTop (mkF m 3 #[.val (.ref ob)] [(.int G1)]))
  refine own_st (fun _ k => XS.ifNo X1.here hx rfl (hb hby d2_3) rfl ((if0 _ _).trans (feq (hG)).1) k) ?_
  show own_Go _ _ _ _ (T1.setTop (mkF m 6 #[.val (.ref ob)] []))
  refine own_st (fun _ k => XS.aloadN X1.here hx rfl (hb hby d2_6) rfl rfl k) ?_
  show own_Go _ _ _ _ (T1.setTop (mkF m 7 #[.val (.ref ob)] [(.ref ob)]))
  obtain ⟨T2, X2, e2, st2⟩ := getF X1 hx hZ hown (host := "") (Or.inl (hw _ (List.mem_of_getElem? (i := 19) rfl))) Via.refl e1 F_coder (g := (mkF m 7 #[.val (.ref ob)] [(.ref ob)])) rfl rfl (hb hby d2_7)
  refine own_st st2 ?_
  show own_Go _ _ _ _ (T2.setTop (mkF m 10 #[.val (.ref ob)] [(.int (0 : Int32))]))
  refine own_st (fun _ k => XS.ifNo X2.here hx rfl (hb hby d2_10) rfl ((if0 _ _).trans (teq (by decide : ((0 : Int32) = (0 : Int32)))).2) k) ?_
  show own_Go _ _ _ _ (T2.setTop (mkF m 13 #[.val (.ref ob)] []))
  refine own_st (fun _ k => XS.iconst X2.here hx rfl (hb hby d2_13) k) ?_
  show own_Go _ _ _ _ (T2.setTop (mkF m 14 #[.val (.ref ob)] [(.int (1 : Int32))]))
  refine own_st (fun _ k => XS.goto X2.here hx rfl (pc0 := 14) (pc' := 18) rfl (hb hby d2_14) (by decide) (by decide) k) ?_
  show own_Go _ _ _ _ (T2.setTop (mkF m 18 #[.val (.ref ob)] [(.int (1 : Int32))]))
  obtain ⟨fs, hr, hrun, hended, hW, hsame⟩ := X2.leave (v := some (.int (1 : Int32))) (fun h => by rw [Bd.returns] at h; cases h)
  refine own_out (retN X2 hx (t := .boolean) Bd.returns (by simp) (hb hby d2_18) hr) ⟨hrun, hended, _, _, rfl, ?_, ⟨_, rfl⟩, hW, hsame.mono (by decide) (by decide)⟩
  show Q2 Z ob G1 h0 n0 _ T2.heap _
  exact ⟨rfl, N0, e2⟩
theorem d5_0 : decode jdk_41_method_11_code 0 = .ok (.iload_n 0, 1) := by decide +kernel
theorem d5_1 : decode jdk_41_method_11_code 1 = .ok (.ifCond .lt 8, 3) := by decide +kernel
theorem d5_4 : decode jdk_41_method_11_code 4 = .ok (.iload_n 0, 1) := by decide +kernel
theorem d5_5 : decode jdk_41_method_11_code 5 = .ok (.iload_n 1, 1) := by decide +kernel
theorem d5_6 : decode jdk_41_method_11_code 6 = .ok (.if_icmp .lt 10, 3) := by decide +kernel
theorem d5_9 : decode jdk_41_method_11_code 9 = .ok (.aload_n 2, 1) := by decide +kernel
theorem d5_10 : decode jdk_41_method_11_code 10 = .ok (.iload_n 0, 1) := by decide +kernel
theorem d5_11 : decode jdk_41_method_11_code 11 = .ok (.iload_n 1, 1) := by decide +kernel
theorem d5_12 : decode jdk_41_method_11_code 12 = .ok (.invokestatic 95, 3) := by decide +kernel
theorem d5_15 : decode jdk_41_method_11_code 15 = .ok (.athrow, 1) := by decide +kernel
theorem d5_16 : decode jdk_41_method_11_code 16 = .ok (.iload_n 0, 1) := by decide +kernel
theorem d5_17 : decode jdk_41_method_11_code 17 = .ok (.ireturn, 1) := by decide +kernel
theorem own_pd1 : parseMethodDescriptor "(IILjava/util/function/BiFunction;)I" = some ⟨[.int, .int, (.object "java/util/function/BiFunction")], some .int⟩ := by decide +kernel
theorem own_pn1 : plainName "jdk/internal/util/Preconditions" = true := by first | (simp [plainName, overriddenIn]; done) | decide +kernel
def Q5n (Z : State) (u0 : Int32) (u1 : Int32)  (h0 : Heap) (n0 : Nat) (v : Option Value) (h : Heap) (L : List Loc) : Prop := v = some (.int u0) ∧ Fr n0 L ∧ h = h0
theorem ef_5n (m : MethodId) (x0 : Int32) (x1 : Int32) : entryFrame m #[(.int x0), (.int x1), .null] 3 = mkF m 0 #[.val (.int x0), .val (.int x1), .val .null] [] := by first | (simp [entryFrame, mkF, argsToLocals, Value.category]; done) | rfl
set_option maxRecDepth 65536 in
set_option maxHeartbeats 40000000 in
theorem rm5n (l : Launch) (Z : State) (a0 : Array Value) (hw : ∀ d ∈ tables_1, d.before a0 Z = true) (ws : List Jvm.Cond) (u0 : Int32) (u1 : Int32)  (h0 : Heap) (n0 : Nat) (Z0 : n0 ≤ h0.size) (hj0 : ¬ (u0 < (0 : Int32))) (hj1 : u0 < u1) :
    MetFree l (⟨"jdk/internal/util/Preconditions", "checkIndex", "(IILjava/util/function/BiFunction;)I"⟩ : MethodName) (head1 (Jvm.Cond.code (⟨"jdk/internal/util/Preconditions", "checkIndex", "(IILjava/util/function/BiFunction;)I"⟩ : MethodName) jdk_41_method_11_code 3 (some .int) :: ws) ({ frames := 0, cells := 0, slots := 0, locals := 0 } : Room)) (fun a U => a = #[(.int u0), (.int u1), .null] ∧ Z.Warmed39 U.vm ∧ U.heap = h0) (fun _ _ _ _ _ => True) (fun _ U o U' => ∃ v L, o = .returned v ∧ Q5n Z u0 u1 h0 n0 v U'.heap L ∧ FrameEnd U o U' L ({ frames := 0, cells := 0, slots := 0, locals := 0 } : Room).cells ({ frames := 0, cells := 0, slots := 0, locals := 0 } : Room).slots) := by
  refine MetFree.of_bodySF (plainFor_of_name own_pn1) hisR ?_
  intro p e s m args below meth c s₁ Bd hml0 hP hK
  obtain ⟨rfl, hZ, hh⟩ := hP
  have hx := Bd.exec
  have hby := Bd.bytes
  have hml : c.maxLocals = 3 := hml0
  have hown : s.vm.findClass "jdk/internal/util/Preconditions" = some m.cls := findClass_of_methodNamed Bd.named
  have hnm := (name_of_methodNamed Bd.named Bd.method).1
  have X0 : Stand p l e ({ frames := 0, cells := 0, slots := 0, locals := 0 } : Room) s m #[(.int u0), (.int u1), .null] below meth c s₁ [] 0 0 := Stand.of_body Bd
  have e0 : s₁.heap = h0 := by rw [← hh, Bd.state]; rfl
  have N0 := Fr.nil n0
  refine own_in ?_
  refine own_st (fun _ k => castTop (ef_5n m u0 u1) k) ?_
  have K0 : Keep h0 h0 [] := Keep.refl h0 []
  show own_Go _ _ _ _ (s₁.setTop (mkF m 0 #[.val (.int u0), .val (.int u1), .val .null] []))
  refine own_st (fun _ k => XS.iloadN X0.here hx rfl (hb hby d5_0) rfl k) ?_
  show own_Go _ _ _ _ (s₁.setTop (mkF m 1 #[.val (.int u0), .val (.int u1), .val .null] [(.int u0)]))
  refine own_st (fun _ k => XS.ifNo X0.here hx rfl (hb hby d5_1) rfl ((if0 _ _).trans (flt (hj0)).1) k) ?_
  show own_Go _ _ _ _ (s₁.setTop (mkF m 4 #[.val (.int u0), .val (.int u1), .val .null] []))
  refine own_st (fun _ k => XS.iloadN X0.here hx rfl (hb hby d5_4) rfl k) ?_
  show own_Go _ _ _ _ (s₁.setTop (mkF m 5 #[.val (.int u0), .val (.int u1), .val .null] [(.int u0)]))
  refine own_st (fun _ k => XS.iloadN X0.here hx rfl (hb hby d5_5) rfl k) ?_
  show own_Go _ _ _ _ (s₁.setTop (mkF m 6 #[.val (.int u0), .val (.int u1), .val .null] [(.int u1), (.int u0)]))
  refine own_st (fun _ k => XS.icmpYes X0.here hx rfl (pc0 := 6) (pc' := 16) rfl (hb hby d5_6) rfl (tlt (hj1)).1 (by decide) (by decide) k) ?_
  show own_Go _ _ _ _ (s₁.setTop (mkF m 16 #[.val (.int u0), .val (.int u1), .val .null] []))
  refine own_st (fun _ k => XS.iloadN X0.here hx rfl (hb hby d5_16) rfl k) ?_
  show own_Go _ _ _ _ (s₁.setTop (mkF m 17 #[.val (.int u0), .val (.int u1), .val .null] [(.int u0)]))
  obtain ⟨fs, hr, hrun, hended, hW, hsame⟩ := X0.leave (v := some (.int u0)) (fun h => by rw [Bd.returns] at h; cases h)
  refine own_out (own_retI X0 hx Bd.returns (hb hby d5_17) hr) ⟨hrun, hended, _, _, rfl, ?_, ⟨_, rfl⟩, hW, hsame.mono (by decide) (by decide)⟩
  show Q5n Z u0 u1 h0 n0 _ s₁.heap _
  exact ⟨rfl, N0, e0⟩
def Q5r (Z : State) (u0 : Int32) (u1 : Int32) (fa : Addr) (h0 : Heap) (n0 : Nat) (v : Option Value) (h : Heap) (L : List Loc) : Prop := v = some (.int u0) ∧ Fr n0 L ∧ h = h0
theorem ef_5r (m : MethodId) (x0 : Int32) (x1 : Int32) (x2 : Addr) : entryFrame m #[(.int x0), (.int x1), (.ref x2)] 3 = mkF m 0 #[.val (.int x0), .val (.int x1), .val (.ref x2)] [] := by first | (simp [entryFrame, mkF, argsToLocals, Value.category]; done) | rfl
set_option maxRecDepth 65536 in
set_option maxHeartbeats 40000000 in
theorem rm5r (l : Launch) (Z : State) (a0 : Array Value) (hw : ∀ d ∈ tables_1, d.before a0 Z = true) (ws : List Jvm.Cond) (u0 : Int32) (u1 : Int32) (fa : Addr) (h0 : Heap) (n0 : Nat) (Z0 : n0 ≤ h0.size) (hj0 : ¬ (u0 < (0 : Int32))) (hj1 : u0 < u1) :
    MetFree l (⟨"jdk/internal/util/Preconditions", "checkIndex", "(IILjava/util/function/BiFunction;)I"⟩ : MethodName) (head1 (Jvm.Cond.code (⟨"jdk/internal/util/Preconditions", "checkIndex", "(IILjava/util/function/BiFunction;)I"⟩ : MethodName) jdk_41_method_11_code 3 (some .int) :: ws) ({ frames := 0, cells := 0, slots := 0, locals := 0 } : Room)) (fun a U => a = #[(.int u0), (.int u1), (.ref fa)] ∧ Z.Warmed39 U.vm ∧ U.heap = h0) (fun _ _ _ _ _ => True) (fun _ U o U' => ∃ v L, o = .returned v ∧ Q5r Z u0 u1 fa h0 n0 v U'.heap L ∧ FrameEnd U o U' L ({ frames := 0, cells := 0, slots := 0, locals := 0 } : Room).cells ({ frames := 0, cells := 0, slots := 0, locals := 0 } : Room).slots) := by
  refine MetFree.of_bodySF (plainFor_of_name own_pn1) hisR ?_
  intro p e s m args below meth c s₁ Bd hml0 hP hK
  obtain ⟨rfl, hZ, hh⟩ := hP
  have hx := Bd.exec
  have hby := Bd.bytes
  have hml : c.maxLocals = 3 := hml0
  have hown : s.vm.findClass "jdk/internal/util/Preconditions" = some m.cls := findClass_of_methodNamed Bd.named
  have hnm := (name_of_methodNamed Bd.named Bd.method).1
  have X0 : Stand p l e ({ frames := 0, cells := 0, slots := 0, locals := 0 } : Room) s m #[(.int u0), (.int u1), (.ref fa)] below meth c s₁ [] 0 0 := Stand.of_body Bd
  have e0 : s₁.heap = h0 := by rw [← hh, Bd.state]; rfl
  have N0 := Fr.nil n0
  refine own_in ?_
  refine own_st (fun _ k => castTop (ef_5r m u0 u1 fa) k) ?_
  have K0 : Keep h0 h0 [] := Keep.refl h0 []
  show own_Go _ _ _ _ (s₁.setTop (mkF m 0 #[.val (.int u0), .val (.int u1), .val (.ref fa)] []))
  refine own_st (fun _ k => XS.iloadN X0.here hx rfl (hb hby d5_0) rfl k) ?_
  show own_Go _ _ _ _ (s₁.setTop (mkF m 1 #[.val (.int u0), .val (.int u1), .val (.ref fa)] [(.int u0)]))
  refine own_st (fun _ k => XS.ifNo X0.here hx rfl (hb hby d5_1) rfl ((if0 _ _).trans (flt (hj0)).1) k) ?_
  show own_Go _ _ _ _ (s₁.setTop (mkF m 4 #[.val (.int u0), .val (.int u1), .val (.ref fa)] []))
  refine own_st (fun _ k => XS.iloadN X0.here hx rfl (hb hby d5_4) rfl k) ?_
  show own_Go _ _ _ _ (s₁.setTop (mkF m 5 #[.val (.int u0), .val (.int u1), .val (.ref fa)] [(.int u0)]))
  refine own_st (fun _ k => XS.iloadN X0.here hx rfl (hb hby d5_5) rfl k) ?_
  show own_Go _ _ _ _ (s₁.setTop (mkF m 6 #[.val (.int u0), .val (.int u1), .val (.ref fa)] [(.int u1), (.int u0)]))
  refine own_st (fun _ k => XS.icmpYes X0.here hx rfl (pc0 := 6) (pc' := 16) rfl (hb hby d5_6) rfl (tlt (hj1)).1 (by decide) (by decide) k) ?_
  show own_Go _ _ _ _ (s₁.setTop (mkF m 16 #[.val (.int u0), .val (.int u1), .val (.ref fa)] []))
  refine own_st (fun _ k => XS.iloadN X0.here hx rfl (hb hby d5_16) rfl k) ?_
  show own_Go _ _ _ _ (s₁.setTop (mkF m 17 #[.val (.int u0), .val (.int u1), .val (.ref fa)] [(.int u0)]))
  obtain ⟨fs, hr, hrun, hended, hW, hsame⟩ := X0.leave (v := some (.int u0)) (fun h => by rw [Bd.returns] at h; cases h)
  refine own_out (own_retI X0 hx Bd.returns (hb hby d5_17) hr) ⟨hrun, hended, _, _, rfl, ?_, ⟨_, rfl⟩, hW, hsame.mono (by decide) (by decide)⟩
  show Q5r Z u0 u1 fa h0 n0 _ s₁.heap _
  exact ⟨rfl, N0, e0⟩
theorem d4_0 : decode jdk_42_method_155_code 0 = .ok (.iload_n 0, 1) := by decide +kernel
theorem d4_1 : decode jdk_42_method_155_code 1 = .ok (.iload_n 1, 1) := by decide +kernel
theorem d4_2 : decode jdk_42_method_155_code 2 = .ok (.getstatic 1053, 3) := by decide +kernel
theorem d4_5 : decode jdk_42_method_155_code 5 = .ok (.invokestatic 1059, 3) := by decide +kernel
theorem d4_8 : decode jdk_42_method_155_code 8 = .ok (.pop, 1) := by decide +kernel
theorem d4_9 : decode jdk_42_method_155_code 9 = .ok (.return_, 1) := by decide +kernel
theorem own_pd2 : parseMethodDescriptor "(II)V" = some ⟨[.int, .int], none⟩ := by decide +kernel
def Q4 (Z : State) (u0 : Int32) (u1 : Int32) (fv : Value) (h0 : Heap) (n0 : Nat) (v : Option Value) (h : Heap) (L : List Loc) : Prop := v = none ∧ Fr n0 L ∧ h = h0
theorem ef_4 (m : MethodId) (x0 : Int32) (x1 : Int32) : entryFrame m #[(.int x0), (.int x1)] 2 = mkF m 0 #[.val (.int x0), .val (.int x1)] [] := by first | (simp [entryFrame, mkF, argsToLocals, Value.category]; done) | rfl
set_option maxRecDepth 65536 in
set_option maxHeartbeats 40000000 in
theorem rm4 (l : Launch) (Z : State) (a0 : Array Value) (hw : ∀ d ∈ tables_1, d.before a0 Z = true) (ws : List Jvm.Cond) (u0 : Int32) (u1 : Int32) (fv : Value) (h0 : Heap) (n0 : Nat) (Z0 : n0 ≤ h0.size) (S3 : Sta Z h0 "jdk/internal/util/Preconditions" "SIOOBE_FORMATTER" "Ljava/util/function/BiFunction;" fv) (rG : fv.isRef = true) (hj0 : ¬ (u0 < (0 : Int32))) (hj1 : u0 < u1) :
    MetFree l (⟨"java/lang/String", "checkIndex", "(II)V"⟩ : MethodName) (head1 (Jvm.Cond.code (⟨"java/lang/String", "checkIndex", "(II)V"⟩ : MethodName) jdk_42_method_155_code 2 none :: ws) ({ frames := 1, cells := 0, slots := 0, locals := 20 } : Room)) (fun a U => a = #[(.int u0), (.int u1)] ∧ Z.Warmed39 U.vm ∧ U.heap = h0) (fun _ _ _ _ _ => True) (fun _ U o U' => ∃ v L, o = .returned v ∧ Q4 Z u0 u1 fv h0 n0 v U'.heap L ∧ FrameEnd U o U' L ({ frames := 1, cells := 0, slots := 0, locals := 20 } : Room).cells ({ frames := 1, cells := 0, slots := 0, locals := 20 } : Room).slots) := by
  refine MetFree.of_bodySF (plainFor_of_name own_pn0) hisR ?_
  intro p e s m args below meth c s₁ Bd hml0 hP hK
  obtain ⟨rfl, hZ, hh⟩ := hP
  have hx := Bd.exec
  have hby := Bd.bytes
  have hml : c.maxLocals = 2 := hml0
  have hown : s.vm.findClass "java/lang/String" = some m.cls := findClass_of_methodNamed Bd.named
  have hnm := (name_of_methodNamed Bd.named Bd.method).1
  have X0 : Stand p l e ({ frames := 1, cells := 0, slots := 0, locals := 20 } : Room) s m #[(.int u0), (.int u1)] below meth c s₁ [] 0 0 := Stand.of_body Bd
  have e0 : s₁.heap = h0 := by rw [← hh, Bd.state]; rfl
  have N0 := Fr.nil n0
  refine own_in ?_
  refine own_st (fun _ k => castTop (ef_4 m u0 u1) k) ?_
  have K0 : Keep h0 h0 [] := Keep.refl h0 []
  show own_Go _ _ _ _ (s₁.setTop (mkF m 0 #[.val (.int u0), .val (.int u1)] []))
  refine own_st (fun _ k => XS.iloadN X0.here hx rfl (hb hby d4_0) rfl k) ?_
  show own_Go _ _ _ _ (s₁.setTop (mkF m 1 #[.val (.int u0), .val (.int u1)] [(.int u0)]))
  refine own_st (fun _ k => XS.iloadN X0.here hx rfl (hb hby d4_1) rfl k) ?_
  show own_Go _ _ _ _ (s₁.setTop (mkF m 2 #[.val (.int u0), .val (.int u1)] [(.int u1), (.int u0)]))
  obtain ⟨T3, X3, e3, st3⟩ := getS2 X0 hx hZ hown (host := "") (Or.inl (hw _ (List.mem_of_getElem? (i := 28) rfl))) Via.refl e0 S3 (g := (mkF m 2 #[.val (.int u0), .val (.int u1)] [(.int u1), (.int u0)])) rfl (hb hby d4_2)
  refine own_st st3 ?_
  show own_Go _ _ _ _ (T3.setTop (mkF m 5 #[.val (.int u0), .val (.int u1)] [fv, (.int u1), (.int u0)]))
  rcases ref_cases rG with hfv | ⟨fa, hfv⟩
  · skip
    refine own_cast (congrArg (fun zz => T3.setTop (mkF m 5 #[.val (.int u0), .val (.int u1)] [zz, (.int u1), (.int u0)])) hfv) ?_
    show own_Go _ _ _ _ (T3.setTop (mkF m 5 #[.val (.int u0), .val (.int u1)] [.null, (.int u1), (.int u0)]))
    obtain ⟨_, _, ⟨T4, L4, k4, n4⟩, -, X4, ⟨Lc4, hQ4, l4, y4, z4⟩, st4⟩ := Jvm.LawKit.callS X3 hx (y := (⟨"jdk/internal/util/Preconditions", "checkIndex", "(IILjava/util/function/BiFunction;)I"⟩ : MethodName)) hown (mvT hZ (hw _ (List.mem_of_getElem? (i := 30) rfl))) (mvT hZ (hw _ (List.mem_of_getElem? (i := 31) rfl))) (mvT hZ (hw _ (List.mem_of_getElem? (i := 29) rfl))) (mvT hZ (hw _ (List.mem_of_getElem? (i := 32) rfl))) (by decide) (backOf (W := 0) (rm5n l Z a0 hw [] u0 u1  h0 n0 Z0 hj0 hj1) hZ (hw _ (List.mem_of_getElem? (i := 32) rfl)) (hw _ (List.mem_of_getElem? (i := 29) rfl)) (by decide) (by decide)) (g := (mkF m 5 #[.val (.int u0), .val (.int u1)] [.null, (.int u1), (.int u0)])) rfl (by rw [hml]; rfl) (argsL := [(.int u0), (.int u1), .null]) (rest := []) (lenOf own_pd1 rfl) rfl (by show 2 * 0 + _ ≤ _; exact Nat.le_of_eq rfl) (hb hby d4_5) (fun _ _ => ⟨rfl, e3, (by decide : 0 + 0 ≤ _), (by decide : 0 + 0 ≤ _)⟩)
    dsimp only [Pt.U, Pt.locs, Pt.cells, Pt.slots] at X4 l4 y4 z4 st4 hQ4
    subst l4 y4 z4
    obtain ⟨rfl, Nq4, eq4⟩ := hQ4
    have N4 := Fr.app N0 Nq4
    refine own_st st4 ?_
    show own_Go _ _ _ _ (T4.setTop (mkF m 8 #[.val (.int u0), .val (.int u1)] [(.int u0)]))
    refine own_st (fun _ k => XS.pop X4.here hx rfl (hb hby d4_8) rfl rfl k) ?_
    show own_Go _ _ _ _ (T4.setTop (mkF m 9 #[.val (.int u0), .val (.int u1)] []))
    obtain ⟨fs, hr, hrun, hended, hW, hsame⟩ := X4.leave (v := none) (fun _ => rfl)
    refine own_out (X4.returnOut hx Bd.returns (hb hby d4_9) hr) ⟨hrun, hended, _, _, rfl, ?_, ⟨_, rfl⟩, hW, hsame.mono (by decide) (by decide)⟩
    show Q4 Z u0 u1 fv h0 n0 _ T4.heap _
    exact ⟨rfl, N4, eq4⟩
  · skip
    refine own_cast (congrArg (fun zz => T3.setTop (mkF m 5 #[.val (.int u0), .val (.int u1)] [zz, (.int u1), (.int u0)])) hfv) ?_
    show own_Go _ _ _ _ (T3.setTop (mkF m 5 #[.val (.int u0), .val (.int u1)] [(.ref fa), (.int u1), (.int u0)]))
    obtain ⟨_, _, ⟨T5, L5, k5, n5⟩, -, X5, ⟨Lc5, hQ5, l5, y5, z5⟩, st5⟩ := Jvm.LawKit.callS X3 hx (y := (⟨"jdk/internal/util/Preconditions", "checkIndex", "(IILjava/util/function/BiFunction;)I"⟩ : MethodName)) hown (mvT hZ (hw _ (List.mem_of_getElem? (i := 30) rfl))) (mvT hZ (hw _ (List.mem_of_getElem? (i := 31) rfl))) (mvT hZ (hw _ (List.mem_of_getElem? (i := 29) rfl))) (mvT hZ (hw _ (List.mem_of_getElem? (i := 32) rfl))) (by decide) (backOf (W := 0) (rm5r l Z a0 hw [] u0 u1 fa h0 n0 Z0 hj0 hj1) hZ (hw _ (List.mem_of_getElem? (i := 32) rfl)) (hw _ (List.mem_of_getElem? (i := 29) rfl)) (by decide) (by decide)) (g := (mkF m 5 #[.val (.int u0), .val (.int u1)] [(.ref fa), (.int u1), (.int u0)])) rfl (by rw [hml]; rfl) (argsL := [(.int u0), (.int u1), (.ref fa)]) (rest := []) (lenOf own_pd1 rfl) rfl (by show 2 * 0 + _ ≤ _; exact Nat.le_of_eq rfl) (hb hby d4_5) (fun _ _ => ⟨rfl, e3, (by decide : 0 + 0 ≤ _), (by decide : 0 + 0 ≤ _)⟩)
    dsimp only [Pt.U, Pt.locs, Pt.cells, Pt.slots] at X5 l5 y5 z5 st5 hQ5
    subst l5 y5 z5
    obtain ⟨rfl, Nq5, eq5⟩ := hQ5
    have N5 := Fr.app N0 Nq5
    refine own_st st5 ?_
    show own_Go _ _ _ _ (T5.setTop (mkF m 8 #[.val (.int u0), .val (.int u1)] [(.int u0)]))
    refine own_st (fun _ k => XS.pop X5.here hx rfl (hb hby d4_8) rfl rfl k) ?_
    show own_Go _ _ _ _ (T5.setTop (mkF m 9 #[.val (.int u0), .val (.int u1)] []))
    obtain ⟨fs, hr, hrun, hended, hW, hsame⟩ := X5.leave (v := none) (fun _ => rfl)
    refine own_out (X5.returnOut hx Bd.returns (hb hby d4_9) hr) ⟨hrun, hended, _, _, rfl, ?_, ⟨_, rfl⟩, hW, hsame.mono (by decide) (by decide)⟩
    show Q4 Z u0 u1 fv h0 n0 _ T5.heap _
    exact ⟨rfl, N5, eq5⟩
theorem d3_0 : decode jdk_43_method_2_code 0 = .ok (.iload_n 1, 1) := by decide +kernel
theorem d3_1 : decode jdk_43_method_2_code 1 = .ok (.aload_n 0, 1) := by decide +kernel
theorem d3_2 : decode jdk_43_method_2_code 2 = .ok (.arraylength, 1) := by decide +kernel
theorem d3_3 : decode jdk_43_method_2_code 3 = .ok (.invokestatic 9, 3) := by decide +kernel
theorem d3_6 : decode jdk_43_method_2_code 6 = .ok (.aload_n 0, 1) := by decide +kernel
theorem d3_7 : decode jdk_43_method_2_code 7 = .ok (.iload_n 1, 1) := by decide +kernel
theorem d3_8 : decode jdk_43_method_2_code 8 = .ok (.baload, 1) := by decide +kernel
theorem d3_9 : decode jdk_43_method_2_code 9 = .ok (.sipush 255, 3) := by decide +kernel
theorem d3_12 : decode jdk_43_method_2_code 12 = .ok (.iand, 1) := by decide +kernel
theorem d3_13 : decode jdk_43_method_2_code 13 = .ok (.i2c, 1) := by decide +kernel
theorem d3_14 : decode jdk_43_method_2_code 14 = .ok (.ireturn, 1) := by decide +kernel
theorem own_pd3 : parseMethodDescriptor "([BI)C" = some ⟨[(.array .byte), .int], some .char⟩ := by decide +kernel
theorem own_pn2 : plainName "java/lang/StringLatin1" = true := by first | (simp [plainName, overriddenIn]; done) | decide +kernel
def Q3 (Z : State) (ar : Addr) (kk : ClassId) (bs : List Int32) (u1 : Int32) (fv : Value) (h0 : Heap) (n0 : Nat) (v : Option Value) (h : Heap) (L : List Loc) : Prop := v = some (.int (nar .char (((bs.getD u1.toNatClampNeg 0) &&& (255 : Int32)).toUInt32.toUInt16.toUInt32.toInt32))) ∧ Fr n0 L ∧ h = h0
theorem ef_3 (m : MethodId) (x0 : Addr) (x1 : Int32) : entryFrame m #[(.ref x0), (.int x1)] 2 = mkF m 0 #[.val (.ref x0), .val (.int x1)] [] := by first | (simp [entryFrame, mkF, argsToLocals, Value.category]; done) | rfl
set_option maxRecDepth 65536 in
set_option maxHeartbeats 40000000 in
theorem rm3 (l : Launch) (Z : State) (a0 : Array Value) (hw : ∀ d ∈ tables_1, d.before a0 Z = true) (ws : List Jvm.Cond) (ar : Addr) (kk : ClassId) (bs : List Int32) (u1 : Int32) (fv : Value) (h0 : Heap) (n0 : Nat) (Z0 : n0 ≤ h0.size) (S3 : Sta Z h0 "jdk/internal/util/Preconditions" "SIOOBE_FORMATTER" "Ljava/util/function/BiFunction;" fv) (rG : fv.isRef = true) (V_ar : Arv Z h0 ar kk .byte (16 : Int32) (bs.map Value.int) (.int (0 : Int32))) (hj0 : ¬ (u1 < (0 : Int32))) (hj1 : u1 < (16 : Int32)) :
    MetFree l (⟨"java/lang/StringLatin1", "charAt", "([BI)C"⟩ : MethodName) (head1 (Jvm.Cond.code (⟨"java/lang/StringLatin1", "charAt", "([BI)C"⟩ : MethodName) jdk_43_method_2_code 2 (some .char) :: ws) ({ frames := 2, cells := 0, slots := 0, locals := 45 } : Room)) (fun a U => a = #[(.ref ar), (.int u1)] ∧ Z.Warmed39 U.vm ∧ U.heap = h0) (fun _ _ _ _ _ => True) (fun _ U o U' => ∃ v L, o = .returned v ∧ Q3 Z ar kk bs u1 fv h0 n0 v U'.heap L ∧ FrameEnd U o U' L ({ frames := 2, cells := 0, slots := 0, locals := 45 } : Room).cells ({ frames := 2, cells := 0, slots := 0, locals := 45 } : Room).slots) := by
  refine MetFree.of_bodySF (plainFor_of_name own_pn2) hisR ?_
  intro p e s m args below meth c s₁ Bd hml0 hP hK
  obtain ⟨rfl, hZ, hh⟩ := hP
  have hx := Bd.exec
  have hby := Bd.bytes
  have hml : c.maxLocals = 2 := hml0
  have hown : s.vm.findClass "java/lang/StringLatin1" = some m.cls := findClass_of_methodNamed Bd.named
  have hnm := (name_of_methodNamed Bd.named Bd.method).1
  have X0 : Stand p l e ({ frames := 2, cells := 0, slots := 0, locals := 45 } : Room) s m #[(.ref ar), (.int u1)] below meth c s₁ [] 0 0 := Stand.of_body Bd
  have e0 : s₁.heap = h0 := by rw [← hh, Bd.state]; rfl
  have N0 := Fr.nil n0
  refine own_in ?_
  refine own_st (fun _ k => castTop (ef_3 m ar u1) k) ?_
  have K0 : Keep h0 h0 [] := Keep.refl h0 []
  show own_Go _ _ _ _ (s₁.setTop (mkF m 0 #[.val (.ref ar), .val (.int u1)] []))
  refine own_st (fun _ k => XS.iloadN X0.here hx rfl (hb hby d3_0) rfl k) ?_
  show own_Go _ _ _ _ (s₁.setTop (mkF m 1 #[.val (.ref ar), .val (.int u1)] [(.int u1)]))
  refine own_st (fun _ k => XS.aloadN X0.here hx rfl (hb hby d3_1) rfl rfl k) ?_
  show own_Go _ _ _ _ (s₁.setTop (mkF m 2 #[.val (.ref ar), .val (.int u1)] [(.ref ar), (.int u1)]))
  obtain ⟨cl6, Ar6, -, Sz6, Nn6, -, -⟩ := id V_ar
  refine own_st (X0.arraylength hx (by rw [e0]; exact Ar6.1) (State.isArrayOf_alike hZ.alike Ar6.2.1) (g := (mkF m 2 #[.val (.ref ar), .val (.int u1)] [(.ref ar), (.int u1)])) rfl rfl (hb hby d3_2)) ?_
  rw [len_of Sz6 Nn6]
  show own_Go _ _ _ _ (s₁.setTop (mkF m 3 #[.val (.ref ar), .val (.int u1)] [(.int (16 : Int32)), (.int u1)]))
  obtain ⟨_, _, ⟨T7, L7, k7, n7⟩, -, X7, ⟨Lc7, hQ7, l7, y7, z7⟩, st7⟩ := Jvm.LawKit.callS X0 hx (y := (⟨"java/lang/String", "checkIndex", "(II)V"⟩ : MethodName)) hown (mvT hZ (hw _ (List.mem_of_getElem? (i := 25) rfl))) (mvT hZ (hw _ (List.mem_of_getElem? (i := 26) rfl))) (mvT hZ (hw _ (List.mem_of_getElem? (i := 1) rfl))) (mvT hZ (hw _ (List.mem_of_getElem? (i := 27) rfl))) (by decide) (backOf (W := 0) (rm4 l Z a0 hw [] u1 (16 : Int32) fv h0 n0 Z0 S3 rG hj0 hj1) hZ (hw _ (List.mem_of_getElem? (i := 27) rfl)) (hw _ (List.mem_of_getElem? (i := 1) rfl)) (by decide) (by decide)) (g := (mkF m 3 #[.val (.ref ar), .val (.int u1)] [(.int (16 : Int32)), (.int u1)])) rfl (by rw [hml]; rfl) (argsL := [(.int u1), (.int (16 : Int32))]) (rest := []) (lenOf own_pd2 rfl) rfl (by show 2 * 0 + _ ≤ _; exact Nat.le_of_eq rfl) (hb hby d3_3) (fun _ _ => ⟨rfl, e0, (by decide : 0 + 0 ≤ _), (by decide : 0 + 0 ≤ _)⟩)
  dsimp only [Pt.U, Pt.locs, Pt.cells, Pt.slots] at X7 l7 y7 z7 st7 hQ7
  subst l7 y7 z7
  obtain ⟨rfl, Nq7, eq7⟩ := hQ7
  have N7 := Fr.app N0 Nq7
  refine own_st st7 ?_
  show own_Go _ _ _ _ (T7.setTop (mkF m 6 #[.val (.ref ar), .val (.int u1)] []))
  refine own_st (fun _ k => XS.aloadN X7.here hx rfl (hb hby d3_6) rfl rfl k) ?_
  show own_Go _ _ _ _ (T7.setTop (mkF m 7 #[.val (.ref ar), .val (.int u1)] [(.ref ar)]))
  refine own_st (fun _ k => XS.iloadN X7.here hx rfl (hb hby d3_7) rfl k) ?_
  show own_Go _ _ _ _ (T7.setTop (mkF m 8 #[.val (.ref ar), .val (.int u1)] [(.int u1), (.ref ar)]))
  obtain ⟨cl8, Ar8, -, Sz8, Nn8, Hs8, -⟩ := id V_ar
  have hin8 : ¬ (u1 < 0 ∨ cl8.slots.size ≤ (u1).toNatClampNeg) := inb_of Sz8 ⟨hj0, hj1⟩
  have hat8 : cl8.slots[(u1).toNatClampNeg]? = some (.int (bs.getD u1.toNatClampNeg 0)) := Hs8.at hin8 (own_getD bs _)
  refine own_st (X7.baloadBytes hx (j := u1) (v := (.int (bs.getD u1.toNatClampNeg 0))) (by rw [eq7]; exact Ar8.1) (State.isArrayOf_alike hZ.alike Ar8.2.1) Ar8.2.2 hin8 hat8 (g := (mkF m 8 #[.val (.ref ar), .val (.int u1)] [(.int u1), (.ref ar)])) rfl rfl (hb hby d3_8)) ?_
  show own_Go _ _ _ _ (T7.setTop (mkF m 9 #[.val (.ref ar), .val (.int u1)] [(.int (bs.getD u1.toNatClampNeg 0))]))
  refine own_st (fun _ k => XS.sipush X7.here hx rfl (hb hby d3_9) k) ?_
  show own_Go _ _ _ _ (T7.setTop (mkF m 12 #[.val (.ref ar), .val (.int u1)] [(.int (255 : Int32)), (.int (bs.getD u1.toNatClampNeg 0))]))
  refine own_st (fun _ k => XS.iand X7.here hx rfl (hb hby d3_12) rfl k) ?_
  show own_Go _ _ _ _ (T7.setTop (mkF m 13 #[.val (.ref ar), .val (.int u1)] [(.int ((bs.getD u1.toNatClampNeg 0) &&& (255 : Int32)))]))
  refine own_st (fun _ k => XS.i2c X7.here hx rfl (hb hby d3_13) rfl k) ?_
  show own_Go _ _ _ _ (T7.setTop (mkF m 14 #[.val (.ref ar), .val (.int u1)] [(.int (((bs.getD u1.toNatClampNeg 0) &&& (255 : Int32)).toUInt32.toUInt16.toUInt32.toInt32))]))
  obtain ⟨fs, hr, hrun, hended, hW, hsame⟩ := X7.leave (v := some (.int (nar .char (((bs.getD u1.toNatClampNeg 0) &&& (255 : Int32)).toUInt32.toUInt16.toUInt32.toInt32)))) (fun h => by rw [Bd.returns] at h; cases h)
  refine own_out (retN X7 hx (t := .char) Bd.returns (by simp) (hb hby d3_14) hr) ⟨hrun, hended, _, _, rfl, ?_, ⟨_, rfl⟩, hW, hsame.mono (by decide) (by decide)⟩
  show Q3 Z ar kk bs u1 fv h0 n0 _ T7.heap _
  exact ⟨rfl, N7, eq7⟩
theorem d1_0 : decode jdk_42_method_56_code 0 = .ok (.aload_n 0, 1) := by decide +kernel
theorem d1_1 : decode jdk_42_method_56_code 1 = .ok (.invokevirtual 492, 3) := by decide +kernel
theorem d1_4 : decode jdk_42_method_56_code 4 = .ok (.ifCond .eq 12, 3) := by decide +kernel
theorem d1_7 : decode jdk_42_method_56_code 7 = .ok (.aload_n 0, 1) := by decide +kernel
theorem d1_8 : decode jdk_42_method_56_code 8 = .ok (.getfield 9, 3) := by decide +kernel
theorem d1_11 : decode jdk_42_method_56_code 11 = .ok (.iload_n 1, 1) := by decide +kernel
theorem d1_12 : decode jdk_42_method_56_code 12 = .ok (.invokestatic 495, 3) := by decide +kernel
theorem d1_15 : decode jdk_42_method_56_code 15 = .ok (.ireturn, 1) := by decide +kernel
theorem d1_16 : decode jdk_42_method_56_code 16 = .ok (.aload_n 0, 1) := by decide +kernel
theorem d1_17 : decode jdk_42_method_56_code 17 = .ok (.getfield 9, 3) := by decide +kernel
theorem d1_20 : decode jdk_42_method_56_code 20 = .ok (.iload_n 1, 1) := by decide +kernel
theorem d1_21 : decode jdk_42_method_56_code 21 = .ok (.invokestatic 498, 3) := by decide +kernel
theorem d1_24 : decode jdk_42_method_56_code 24 = .ok (.ireturn, 1) := by decide +kernel
theorem own_pd4 : parseMethodDescriptor "(I)C" = some ⟨[.int], some .char⟩ := by decide +kernel
def Q1 (Z : State) (ob : Addr) (ar : Addr) (kk : ClassId) (bs : List Int32) (u1 : Int32) (fv : Value) (G1 : Int32) (h0 : Heap) (n0 : Nat) (v : Option Value) (h : Heap) (L : List Loc) : Prop := v = some (.int (own_cat bs u1)) ∧ Fr n0 L ∧ h = h0
theorem ef_1 (m : MethodId) (x0 : Addr) (x1 : Int32) : entryFrame m #[(.ref x0), (.int x1)] 2 = mkF m 0 #[.val (.ref x0), .val (.int x1)] [] := by first | (simp [entryFrame, mkF, argsToLocals, Value.category]; done) | rfl
set_option maxRecDepth 65536 in
set_option maxHeartbeats 40000000 in
theorem rm1 (l : Launch) (Z : State) (a0 : Array Value) (hw : ∀ d ∈ tables_1, d.before a0 Z = true) (ws : List Jvm.Cond) (ob : Addr) (ar : Addr) (kk : ClassId) (bs : List Int32) (u1 : Int32) (fv : Value) (G1 : Int32) (h0 : Heap) (n0 : Nat) (Z0 : n0 ≤ h0.size) (S1 : Sta Z h0 "java/lang/String" "COMPACT_STRINGS" "Z" (.int G1)) (hG : ¬ (G1 = (0 : Int32))) (S3 : Sta Z h0 "jdk/internal/util/Preconditions" "SIOOBE_FORMATTER" "Ljava/util/function/BiFunction;" fv) (rG : fv.isRef = true) (E_ob : Exa Z h0 ob "java/lang/String") (F_coder : Fld Z h0 ob "java/lang/String" "coder" "B" (.int (0 : Int32))) (F_value : Fld Z h0 ob "java/lang/String" "value" "[B" (.ref ar)) (V_ar : Arv Z h0 ar kk .byte (16 : Int32) (bs.map Value.int) (.int (0 : Int32))) (hj0 : ¬ (u1 < (0 : Int32))) (hj1 : u1 < (16 : Int32)) :
    MetFree l (⟨"java/lang/String", "charAt", "(I)C"⟩ : MethodName) (head1 (Jvm.Cond.code (⟨"java/lang/String", "charAt", "(I)C"⟩ : MethodName) jdk_42_method_56_code 2 (some .char) :: ws) ({ frames := 3, cells := 0, slots := 0, locals := 70 } : Room)) (fun a U => a = #[(.ref ob), (.int u1)] ∧ Z.Warmed39 U.vm ∧ U.heap = h0) (fun _ _ _ _ _ => True) (fun _ U o U' => ∃ v L, o = .returned v ∧ Q1 Z ob ar kk bs u1 fv G1 h0 n0 v U'.heap L ∧ FrameEnd U o U' L ({ frames := 3, cells := 0, slots := 0, locals := 70 } : Room).cells ({ frames := 3, cells := 0, slots := 0, locals := 70 } : Room).slots) := by
  refine MetFree.of_bodySF (plainFor_of_name own_pn0) hisR ?_
  intro p e s m args below meth c s₁ Bd hml0 hP hK
  obtain ⟨rfl, hZ, hh⟩ := hP
  have hx := Bd.exec
  have hby := Bd.bytes
  have hml : c.maxLocals = 2 := hml0
  have hown : s.vm.findClass "java/lang/String" = some m.cls := findClass_of_methodNamed Bd.named
  have hnm := (name_of_methodNamed Bd.named Bd.method).1
  have X0 : Stand p l e ({ frames := 3, cells := 0, slots := 0, locals := 70 } : Room) s m #[(.ref ob), (.int u1)] below meth c s₁ [] 0 0 := Stand.of_body Bd
  have e0 : s₁.heap = h0 := by rw [← hh, Bd.state]; rfl
  have N0 := Fr.nil n0
  refine own_in ?_
  refine own_st (fun _ k => castTop (ef_1 m ob u1) k) ?_
  have K0 : Keep h0 h0 [] := Keep.refl h0 []
  show own_Go _ _ _ _ (s₁.setTop (mkF m 0 #[.val (.ref ob), .val (.int u1)] []))
  refine own_st (fun _ k => XS.aloadN X0.here hx rfl (hb hby d1_0) rfl rfl k) ?_
  show own_Go _ _ _ _ (s₁.setTop (mkF m 1 #[.val (.ref ob), .val (.int u1)] [(.ref ob)]))
  obtain ⟨cq9, kq9, q9a, q9b, q9c⟩ := isOf hZ e0 E_ob
  obtain ⟨_, _, ⟨T9, L9, k9, n9⟩, -, X9, ⟨Lc9, hQ9, l9, y9, z9⟩, st9⟩ := X0.virtualBack hx (y := (⟨"java/lang/String", "isLatin1", "()Z"⟩ : MethodName)) (z := (⟨"java/lang/String", "isLatin1", "()Z"⟩ : MethodName)) hown (mvT hZ (hw _ (List.mem_of_getElem? (i := 13) rfl))) (mvT hZ (hw _ (List.mem_of_getElem? (i := 14) rfl))) (notFace_of_selects (args := #[]) (mvT hZ (hw _ (List.mem_of_getElem? (i := 16) rfl)))) (mvT hZ (hw _ (List.mem_of_getElem? (i := 16) rfl))) (mvT hZ (hw _ (List.mem_of_getElem? (i := 15) rfl))) (by decide) (backOf (W := 0) (rm2 l Z a0 hw [] ob G1 h0 n0 Z0 S1 hG F_coder) hZ (hw _ (List.mem_of_getElem? (i := 17) rfl)) (hw _ (List.mem_of_getElem? (i := 1) rfl)) (by decide) (by decide)) q9a q9c (g := (mkF m 1 #[.val (.ref ob), .val (.int u1)] [(.ref ob)])) rfl (by rw [hml]; rfl) (Steps.refl _) (argsL := []) (rest := []) (lenOf own_pd0 rfl) rfl (by show 2 * 0 + _ ≤ _; exact Nat.le_of_eq rfl) (hb hby d1_1) (fun _ _ => ⟨rfl, e0, (by decide : 0 + 0 ≤ _), (by decide : 0 + 0 ≤ _)⟩)
  dsimp only [Pt.U, Pt.locs, Pt.cells, Pt.slots] at X9 l9 y9 z9 st9 hQ9
  subst l9 y9 z9
  obtain ⟨rfl, Nq9, eq9⟩ := hQ9
  have N9 := Fr.app N0 Nq9
  refine own_tr st9 ?_
  show own_Go _ _ _ _ (T9.setTop (mkF m 4 #[.val (.ref ob), .val (.int u1)] [(.int (1 : Int32))]))
  refine own_st (fun _ k => XS.ifNo X9.here hx rfl (hb hby d1_4) rfl ((if0 _ _).trans (feq (by decide : ¬ ((1 : Int32) = (0 : Int32)))).1) k) ?_
  show own_Go _ _ _ _ (T9.setTop (mkF m 7 #[.val (.ref ob), .val (.int u1)] []))
  refine own_st (fun _ k => XS.aloadN X9.here hx rfl (hb hby d1_7) rfl rfl k) ?_
  show own_Go _ _ _ _ (T9.setTop (mkF m 8 #[.val (.ref ob), .val (.int u1)] [(.ref ob)]))
  obtain ⟨T10, X10, e10, st10⟩ := getF X9 hx hZ hown (host := "") (Or.inl (hw _ (List.mem_of_getElem? (i := 20) rfl))) Via.refl eq9 F_value (g := (mkF m 8 #[.val (.ref ob), .val (.int u1)] [(.ref ob)])) rfl rfl (hb hby d1_8)
  refine own_st st10 ?_
  show own_Go _ _ _ _ (T10.setTop (mkF m 11 #[.val (.ref ob), .val (.int u1)] [(.ref ar)]))
  refine own_st (fun _ k => XS.iloadN X10.here hx rfl (hb hby d1_11) rfl k) ?_
  show own_Go _ _ _ _ (T10.setTop (mkF m 12 #[.val (.ref ob), .val (.int u1)] [(.int u1), (.ref ar)]))
  obtain ⟨_, _, ⟨T11, L11, k11, n11⟩, -, X11, ⟨Lc11, hQ11, l11, y11, z11⟩, st11⟩ := Jvm.LawKit.callS X10 hx (y := (⟨"java/lang/StringLatin1", "charAt", "([BI)C"⟩ : MethodName)) hown (mvT hZ (hw _ (List.mem_of_getElem? (i := 21) rfl))) (mvT hZ (hw _ (List.mem_of_getElem? (i := 22) rfl))) (mvT hZ (hw _ (List.mem_of_getElem? (i := 23) rfl))) (mvT hZ (hw _ (List.mem_of_getElem? (i := 24) rfl))) (by decide) (backOf (W := 0) (rm3 l Z a0 hw [] ar kk bs u1 fv h0 n0 Z0 S3 rG V_ar hj0 hj1) hZ (hw _ (List.mem_of_getElem? (i := 24) rfl)) (hw _ (List.mem_of_getElem? (i := 23) rfl)) (by decide) (by decide)) (g := (mkF m 12 #[.val (.ref ob), .val (.int u1)] [(.int u1), (.ref ar)])) rfl (by rw [hml]; rfl) (argsL := [(.ref ar), (.int u1)]) (rest := []) (lenOf own_pd3 rfl) rfl (by show 2 * 0 + _ ≤ _; exact Nat.le_of_eq rfl) (hb hby d1_12) (fun _ _ => ⟨rfl, e10, (by decide : 0 + 0 ≤ _), (by decide : 0 + 0 ≤ _)⟩)
  dsimp only [Pt.U, Pt.locs, Pt.cells, Pt.slots] at X11 l11 y11 z11 st11 hQ11
  subst l11 y11 z11
  obtain ⟨rfl, Nq11, eq11⟩ := hQ11
  have N11 := Fr.app N9 Nq11
  refine own_st st11 ?_
  show own_Go _ _ _ _ (T11.setTop (mkF m 15 #[.val (.ref ob), .val (.int u1)] [(.int (nar .char (((bs.getD u1.toNatClampNeg 0) &&& (255 : Int32)).toUInt32.toUInt16.toUInt32.toInt32)))]))
  obtain ⟨fs, hr, hrun, hended, hW, hsame⟩ := X11.leave (v := some (.int (nar .char (nar .char (((bs.getD u1.toNatClampNeg 0) &&& (255 : Int32)).toUInt32.toUInt16.toUInt32.toInt32))))) (fun h => by rw [Bd.returns] at h; cases h)
  refine own_out (retN X11 hx (t := .char) Bd.returns (by simp) (hb hby d1_15) hr) ⟨hrun, hended, _, _, rfl, ?_, ⟨_, rfl⟩, hW, hsame.mono (by decide) (by decide)⟩
  show Q1 Z ob ar kk bs u1 fv G1 h0 n0 _ T11.heap _
  exact ⟨rfl, N11, eq11⟩
theorem own_smono {s : State} {vm : Vm} {n n' : Nat} (h : s.Since vm n) (hn : n ≤ n') : s.Since vm n' := ⟨h.1, fun j p a b => ⟨(h.2 j p a b).1, Nat.lt_of_lt_of_le (h.2 j p a b).2 hn⟩⟩
theorem own_atoms : ∀ d ∈ Bundle.stringAtoms, d ∈ tables_1 := by decide +kernel
def own_lo : List Int32 := [48, 49, 50, 51, 52, 53, 54, 55, 56, 57, 97, 98, 99, 100, 101, 102]
def own_up : List Int32 := [48, 49, 50, 51, 52, 53, 54, 55, 56, 57, 65, 66, 67, 68, 69, 70]
def own_hx (u0 : Int32) : Int32 := (if u0 < (48 : Int32) then (if u0 < (97 : Int32) then (if u0 < (65 : Int32) then (-1 : Int32) else (if (70 : Int32) < u0 then (-1 : Int32) else ((u0 - (65 : Int32)) + (10 : Int32)))) else (if (102 : Int32) < u0 then (if u0 < (65 : Int32) then (-1 : Int32) else (if (70 : Int32) < u0 then (-1 : Int32) else ((u0 - (65 : Int32)) + (10 : Int32)))) else ((u0 - (97 : Int32)) + (10 : Int32)))) else (if (57 : Int32) < u0 then (if u0 < (97 : Int32) then (if u0 < (65 : Int32) then (-1 : Int32) else (if (70 : Int32) < u0 then (-1 : Int32) else ((u0 - (65 : Int32)) + (10 : Int32)))) else (if (102 : Int32) < u0 then (if u0 < (65 : Int32) then (-1 : Int32) else (if (70 : Int32) < u0 then (-1 : Int32) else ((u0 - (65 : Int32)) + (10 : Int32)))) else ((u0 - (97 : Int32)) + (10 : Int32)))) else (u0 - (48 : Int32))))
theorem d6_0 : decode prog_69_method_5_code 0 = .ok (.iload_n 0, 1) := by decide +kernel
theorem d6_1 : decode prog_69_method_5_code 1 = .ok (.bipush 48, 2) := by decide +kernel
theorem d6_3 : decode prog_69_method_5_code 3 = .ok (.if_icmp .lt 14, 3) := by decide +kernel
theorem d6_6 : decode prog_69_method_5_code 6 = .ok (.iload_n 0, 1) := by decide +kernel
theorem d6_7 : decode prog_69_method_5_code 7 = .ok (.bipush 57, 2) := by decide +kernel
theorem d6_9 : decode prog_69_method_5_code 9 = .ok (.if_icmp .gt 8, 3) := by decide +kernel
theorem d6_12 : decode prog_69_method_5_code 12 = .ok (.iload_n 0, 1) := by decide +kernel
theorem d6_13 : decode prog_69_method_5_code 13 = .ok (.bipush 48, 2) := by decide +kernel
theorem d6_15 : decode prog_69_method_5_code 15 = .ok (.isub, 1) := by decide +kernel
theorem d6_16 : decode prog_69_method_5_code 16 = .ok (.ireturn, 1) := by decide +kernel
theorem d6_17 : decode prog_69_method_5_code 17 = .ok (.iload_n 0, 1) := by decide +kernel
theorem d6_18 : decode prog_69_method_5_code 18 = .ok (.bipush 97, 2) := by decide +kernel
theorem d6_20 : decode prog_69_method_5_code 20 = .ok (.if_icmp .lt 17, 3) := by decide +kernel
theorem d6_23 : decode prog_69_method_5_code 23 = .ok (.iload_n 0, 1) := by decide +kernel
theorem d6_24 : decode prog_69_method_5_code 24 = .ok (.bipush 102, 2) := by decide +kernel
theorem d6_26 : decode prog_69_method_5_code 26 = .ok (.if_icmp .gt 11, 3) := by decide +kernel
theorem d6_29 : decode prog_69_method_5_code 29 = .ok (.iload_n 0, 1) := by decide +kernel
theorem d6_30 : decode prog_69_method_5_code 30 = .ok (.bipush 97, 2) := by decide +kernel
theorem d6_32 : decode prog_69_method_5_code 32 = .ok (.isub, 1) := by decide +kernel
theorem d6_33 : decode prog_69_method_5_code 33 = .ok (.bipush 10, 2) := by decide +kernel
theorem d6_35 : decode prog_69_method_5_code 35 = .ok (.iadd, 1) := by decide +kernel
theorem d6_36 : decode prog_69_method_5_code 36 = .ok (.ireturn, 1) := by decide +kernel
theorem d6_37 : decode prog_69_method_5_code 37 = .ok (.iload_n 0, 1) := by decide +kernel
theorem d6_38 : decode prog_69_method_5_code 38 = .ok (.bipush 65, 2) := by decide +kernel
theorem d6_40 : decode prog_69_method_5_code 40 = .ok (.if_icmp .lt 17, 3) := by decide +kernel
theorem d6_43 : decode prog_69_method_5_code 43 = .ok (.iload_n 0, 1) := by decide +kernel
theorem d6_44 : decode prog_69_method_5_code 44 = .ok (.bipush 70, 2) := by decide +kernel
theorem d6_46 : decode prog_69_method_5_code 46 = .ok (.if_icmp .gt 11, 3) := by decide +kernel
theorem d6_49 : decode prog_69_method_5_code 49 = .ok (.iload_n 0, 1) := by decide +kernel
theorem d6_50 : decode prog_69_method_5_code 50 = .ok (.bipush 65, 2) := by decide +kernel
theorem d6_52 : decode prog_69_method_5_code 52 = .ok (.isub, 1) := by decide +kernel
theorem d6_53 : decode prog_69_method_5_code 53 = .ok (.bipush 10, 2) := by decide +kernel
theorem d6_55 : decode prog_69_method_5_code 55 = .ok (.iadd, 1) := by decide +kernel
theorem d6_56 : decode prog_69_method_5_code 56 = .ok (.ireturn, 1) := by decide +kernel
theorem d6_57 : decode prog_69_method_5_code 57 = .ok (.iconst (-1), 1) := by decide +kernel
theorem d6_58 : decode prog_69_method_5_code 58 = .ok (.ireturn, 1) := by decide +kernel
theorem own_pd5 : parseMethodDescriptor "(C)I" = some ⟨[.char], some .int⟩ := by decide +kernel
theorem own_pn3 : plainName "com/example/web_dispatch/webdispatch/http/PercentEncoding" = true := by first | (simp [plainName, overriddenIn]; done) | decide +kernel
def Q6 (Z : State) (u0 : Int32) (h0 : Heap) (n0 : Nat) (v : Option Value) (h : Heap) (L : List Loc) : Prop := v = some (.int (own_hx u0)) ∧ Fr n0 L ∧ h = h0
theorem ef_6 (m : MethodId) (x0 : Int32) : entryFrame m #[(.int x0)] 1 = mkF m 0 #[.val (.int x0)] [] := by first | (simp [entryFrame, mkF, argsToLocals, Value.category]; done) | rfl
set_option maxRecDepth 65536 in
set_option maxHeartbeats 40000000 in
theorem rm6 (l : Launch) (Z : State) (a0 : Array Value) (hw : ∀ d ∈ tables_1, d.before a0 Z = true) (ws : List Jvm.Cond) (u0 : Int32) (h0 : Heap) (n0 : Nat) (Z0 : n0 ≤ h0.size)  :
    MetFree l (⟨"com/example/web_dispatch/webdispatch/http/PercentEncoding", "hexValue", "(C)I"⟩ : MethodName) (head1 (Jvm.Cond.code (⟨"com/example/web_dispatch/webdispatch/http/PercentEncoding", "hexValue", "(C)I"⟩ : MethodName) prog_69_method_5_code 1 (some .int) :: ws) ({ frames := 0, cells := 0, slots := 0, locals := 0 } : Room)) (fun a U => a = #[(.int u0)] ∧ Z.Warmed39 U.vm ∧ U.heap = h0) (fun _ _ _ _ _ => True) (fun _ U o U' => ∃ v L, o = .returned v ∧ Q6 Z u0 h0 n0 v U'.heap L ∧ FrameEnd U o U' L ({ frames := 0, cells := 0, slots := 0, locals := 0 } : Room).cells ({ frames := 0, cells := 0, slots := 0, locals := 0 } : Room).slots) := by
  refine MetFree.of_bodySF (plainFor_of_name own_pn3) hisR ?_
  intro p e s m args below meth c s₁ Bd hml0 hP hK
  obtain ⟨rfl, hZ, hh⟩ := hP
  have hx := Bd.exec
  have hby := Bd.bytes
  have hml : c.maxLocals = 1 := hml0
  have hown : s.vm.findClass "com/example/web_dispatch/webdispatch/http/PercentEncoding" = some m.cls := findClass_of_methodNamed Bd.named
  have hnm := (name_of_methodNamed Bd.named Bd.method).1
  have X0 : Stand p l e ({ frames := 0, cells := 0, slots := 0, locals := 0 } : Room) s m #[(.int u0)] below meth c s₁ [] 0 0 := Stand.of_body Bd
  have e0 : s₁.heap = h0 := by rw [← hh, Bd.state]; rfl
  have N0 := Fr.nil n0
  refine own_in ?_
  refine own_st (fun _ k => castTop (ef_6 m u0) k) ?_
  have K0 : Keep h0 h0 [] := Keep.refl h0 []
  show own_Go _ _ _ _ (s₁.setTop (mkF m 0 #[.val (.int u0)] []))
  refine own_st (fun _ k => XS.iloadN X0.here hx rfl (hb hby d6_0) rfl k) ?_
  show own_Go _ _ _ _ (s₁.setTop (mkF m 1 #[.val (.int u0)] [(.int u0)]))
  refine own_st (fun _ k => XS.bipush X0.here hx rfl (hb hby d6_1) k) ?_
  show own_Go _ _ _ _ (s₁.setTop (mkF m 3 #[.val (.int u0)] [(.int (48 : Int32)), (.int u0)]))
  by_cases hc12 : u0 < (48 : Int32)
  · skip
    refine own_st (fun _ k => XS.icmpYes X0.here hx rfl (pc0 := 3) (pc' := 17) rfl (hb hby d6_3) rfl (tlt hc12).1 (by decide) (by decide) k) ?_
    show own_Go _ _ _ _ (s₁.setTop (mkF m 17 #[.val (.int u0)] []))
    refine own_st (fun _ k => XS.iloadN X0.here hx rfl (hb hby d6_17) rfl k) ?_
    show own_Go _ _ _ _ (s₁.setTop (mkF m 18 #[.val (.int u0)] [(.int u0)]))
    refine own_st (fun _ k => XS.bipush X0.here hx rfl (hb hby d6_18) k) ?_
    show own_Go _ _ _ _ (s₁.setTop (mkF m 20 #[.val (.int u0)] [(.int (97 : Int32)), (.int u0)]))
    by_cases hc13 : u0 < (97 : Int32)
    · skip
      refine own_st (fun _ k => XS.icmpYes X0.here hx rfl (pc0 := 20) (pc' := 37) rfl (hb hby d6_20) rfl (tlt hc13).1 (by decide) (by decide) k) ?_
      show own_Go _ _ _ _ (s₁.setTop (mkF m 37 #[.val (.int u0)] []))
      refine own_st (fun _ k => XS.iloadN X0.here hx rfl (hb hby d6_37) rfl k) ?_
      show own_Go _ _ _ _ (s₁.setTop (mkF m 38 #[.val (.int u0)] [(.int u0)]))
      refine own_st (fun _ k => XS.bipush X0.here hx rfl (hb hby d6_38) k) ?_
      show own_Go _ _ _ _ (s₁.setTop (mkF m 40 #[.val (.int u0)] [(.int (65 : Int32)), (.int u0)]))
      by_cases hc14 : u0 < (65 : Int32)
      · skip
        refine own_st (fun _ k => XS.icmpYes X0.here hx rfl (pc0 := 40) (pc' := 57) rfl (hb hby d6_40) rfl (tlt hc14).1 (by decide) (by decide) k) ?_
        show own_Go _ _ _ _ (s₁.setTop (mkF m 57 #[.val (.int u0)] []))
        refine own_st (fun _ k => XS.iconst X0.here hx rfl (hb hby d6_57) k) ?_
        show own_Go _ _ _ _ (s₁.setTop (mkF m 58 #[.val (.int u0)] [(.int (-1 : Int32))]))
        obtain ⟨fs, hr, hrun, hended, hW, hsame⟩ := X0.leave (v := some (.int (-1 : Int32))) (fun h => by rw [Bd.returns] at h; cases h)
        refine own_out (own_retI X0 hx Bd.returns (hb hby d6_58) hr) ⟨hrun, hended, _, _, rfl, ?_, ⟨_, rfl⟩, hW, hsame.mono (by decide) (by decide)⟩
        show Q6 Z u0 h0 n0 _ s₁.heap _
        have hv : own_hx u0 = (-1 : Int32) := by
          unfold own_hx
          rw [if_pos hc12, if_pos hc13, if_pos hc14]
        exact ⟨by rw [hv], N0, e0⟩
      · skip
        refine own_st (fun _ k => XS.icmpNo X0.here hx rfl (hb hby d6_40) rfl (flt hc14).1 k) ?_
        show own_Go _ _ _ _ (s₁.setTop (mkF m 43 #[.val (.int u0)] []))
        refine own_st (fun _ k => XS.iloadN X0.here hx rfl (hb hby d6_43) rfl k) ?_
        show own_Go _ _ _ _ (s₁.setTop (mkF m 44 #[.val (.int u0)] [(.int u0)]))
        refine own_st (fun _ k => XS.bipush X0.here hx rfl (hb hby d6_44) k) ?_
        show own_Go _ _ _ _ (s₁.setTop (mkF m 46 #[.val (.int u0)] [(.int (70 : Int32)), (.int u0)]))
        by_cases hc15 : (70 : Int32) < u0
        · skip
          refine own_st (fun _ k => XS.icmpYes X0.here hx rfl (pc0 := 46) (pc' := 57) rfl (hb hby d6_46) rfl (tlt hc15).2.2.1 (by decide) (by decide) k) ?_
          show own_Go _ _ _ _ (s₁.setTop (mkF m 57 #[.val (.int u0)] []))
          refine own_st (fun _ k => XS.iconst X0.here hx rfl (hb hby d6_57) k) ?_
          show own_Go _ _ _ _ (s₁.setTop (mkF m 58 #[.val (.int u0)] [(.int (-1 : Int32))]))
          obtain ⟨fs, hr, hrun, hended, hW, hsame⟩ := X0.leave (v := some (.int (-1 : Int32))) (fun h => by rw [Bd.returns] at h; cases h)
          refine own_out (own_retI X0 hx Bd.returns (hb hby d6_58) hr) ⟨hrun, hended, _, _, rfl, ?_, ⟨_, rfl⟩, hW, hsame.mono (by decide) (by decide)⟩
          show Q6 Z u0 h0 n0 _ s₁.heap _
          have hv : own_hx u0 = (-1 : Int32) := by
            unfold own_hx
            rw [if_pos hc12, if_pos hc13, if_neg hc14, if_pos hc15]
          exact ⟨by rw [hv], N0, e0⟩
        · skip
          refine own_st (fun _ k => XS.icmpNo X0.here hx rfl (hb hby d6_46) rfl (flt hc15).2.2.1 k) ?_
          show own_Go _ _ _ _ (s₁.setTop (mkF m 49 #[.val (.int u0)] []))
          refine own_st (fun _ k => XS.iloadN X0.here hx rfl (hb hby d6_49) rfl k) ?_
          show own_Go _ _ _ _ (s₁.setTop (mkF m 50 #[.val (.int u0)] [(.int u0)]))
          refine own_st (fun _ k => XS.bipush X0.here hx rfl (hb hby d6_50) k) ?_
          show own_Go _ _ _ _ (s₁.setTop (mkF m 52 #[.val (.int u0)] [(.int (65 : Int32)), (.int u0)]))
          refine own_st (fun _ k => XS.isub X0.here hx rfl (hb hby d6_52) rfl k) ?_
          show own_Go _ _ _ _ (s₁.setTop (mkF m 53 #[.val (.int u0)] [(.int (u0 - (65 : Int32)))]))
          refine own_st (fun _ k => XS.bipush X0.here hx rfl (hb hby d6_53) k) ?_
          show own_Go _ _ _ _ (s₁.setTop (mkF m 55 #[.val (.int u0)] [(.int (10 : Int32)), (.int (u0 - (65 : Int32)))]))
          refine own_st (fun _ k => XS.iadd X0.here hx rfl (hb hby d6_55) rfl k) ?_
          show own_Go _ _ _ _ (s₁.setTop (mkF m 56 #[.val (.int u0)] [(.int ((u0 - (65 : Int32)) + (10 : Int32)))]))
          obtain ⟨fs, hr, hrun, hended, hW, hsame⟩ := X0.leave (v := some (.int ((u0 - (65 : Int32)) + (10 : Int32)))) (fun h => by rw [Bd.returns] at h; cases h)
          refine own_out (own_retI X0 hx Bd.returns (hb hby d6_56) hr) ⟨hrun, hended, _, _, rfl, ?_, ⟨_, rfl⟩, hW, hsame.mono (by decide) (by decide)⟩
          show Q6 Z u0 h0 n0 _ s₁.heap _
          have hv : own_hx u0 = ((u0 - (65 : Int32)) + (10 : Int32)) := by
            unfold own_hx
            rw [if_pos hc12, if_pos hc13, if_neg hc14, if_neg hc15]
          exact ⟨by rw [hv], N0, e0⟩
    · skip
      refine own_st (fun _ k => XS.icmpNo X0.here hx rfl (hb hby d6_20) rfl (flt hc13).1 k) ?_
      show own_Go _ _ _ _ (s₁.setTop (mkF m 23 #[.val (.int u0)] []))
      refine own_st (fun _ k => XS.iloadN X0.here hx rfl (hb hby d6_23) rfl k) ?_
      show own_Go _ _ _ _ (s₁.setTop (mkF m 24 #[.val (.int u0)] [(.int u0)]))
      refine own_st (fun _ k => XS.bipush X0.here hx rfl (hb hby d6_24) k) ?_
      show own_Go _ _ _ _ (s₁.setTop (mkF m 26 #[.val (.int u0)] [(.int (102 : Int32)), (.int u0)]))
      by_cases hc16 : (102 : Int32) < u0
      · skip
        refine own_st (fun _ k => XS.icmpYes X0.here hx rfl (pc0 := 26) (pc' := 37) rfl (hb hby d6_26) rfl (tlt hc16).2.2.1 (by decide) (by decide) k) ?_
        show own_Go _ _ _ _ (s₁.setTop (mkF m 37 #[.val (.int u0)] []))
        refine own_st (fun _ k => XS.iloadN X0.here hx rfl (hb hby d6_37) rfl k) ?_
        show own_Go _ _ _ _ (s₁.setTop (mkF m 38 #[.val (.int u0)] [(.int u0)]))
        refine own_st (fun _ k => XS.bipush X0.here hx rfl (hb hby d6_38) k) ?_
        show own_Go _ _ _ _ (s₁.setTop (mkF m 40 #[.val (.int u0)] [(.int (65 : Int32)), (.int u0)]))
        by_cases hc17 : u0 < (65 : Int32)
        · skip
          refine own_st (fun _ k => XS.icmpYes X0.here hx rfl (pc0 := 40) (pc' := 57) rfl (hb hby d6_40) rfl (tlt hc17).1 (by decide) (by decide) k) ?_
          show own_Go _ _ _ _ (s₁.setTop (mkF m 57 #[.val (.int u0)] []))
          refine own_st (fun _ k => XS.iconst X0.here hx rfl (hb hby d6_57) k) ?_
          show own_Go _ _ _ _ (s₁.setTop (mkF m 58 #[.val (.int u0)] [(.int (-1 : Int32))]))
          obtain ⟨fs, hr, hrun, hended, hW, hsame⟩ := X0.leave (v := some (.int (-1 : Int32))) (fun h => by rw [Bd.returns] at h; cases h)
          refine own_out (own_retI X0 hx Bd.returns (hb hby d6_58) hr) ⟨hrun, hended, _, _, rfl, ?_, ⟨_, rfl⟩, hW, hsame.mono (by decide) (by decide)⟩
          show Q6 Z u0 h0 n0 _ s₁.heap _
          have hv : own_hx u0 = (-1 : Int32) := by
            unfold own_hx
            rw [if_pos hc12, if_neg hc13, if_pos hc16, if_pos hc17]
          exact ⟨by rw [hv], N0, e0⟩
        · skip
          refine own_st (fun _ k => XS.icmpNo X0.here hx rfl (hb hby d6_40) rfl (flt hc17).1 k) ?_
          show own_Go _ _ _ _ (s₁.setTop (mkF m 43 #[.val (.int u0)] []))
          refine own_st (fun _ k => XS.iloadN X0.here hx rfl (hb hby d6_43) rfl k) ?_
          show own_Go _ _ _ _ (s₁.setTop (mkF m 44 #[.val (.int u0)] [(.int u0)]))
          refine own_st (fun _ k => XS.bipush X0.here hx rfl (hb hby d6_44) k) ?_
          show own_Go _ _ _ _ (s₁.setTop (mkF m 46 #[.val (.int u0)] [(.int (70 : Int32)), (.int u0)]))
          by_cases hc18 : (70 : Int32) < u0
          · skip
            refine own_st (fun _ k => XS.icmpYes X0.here hx rfl (pc0 := 46) (pc' := 57) rfl (hb hby d6_46) rfl (tlt hc18).2.2.1 (by decide) (by decide) k) ?_
            show own_Go _ _ _ _ (s₁.setTop (mkF m 57 #[.val (.int u0)] []))
            refine own_st (fun _ k => XS.iconst X0.here hx rfl (hb hby d6_57) k) ?_
            show own_Go _ _ _ _ (s₁.setTop (mkF m 58 #[.val (.int u0)] [(.int (-1 : Int32))]))
            obtain ⟨fs, hr, hrun, hended, hW, hsame⟩ := X0.leave (v := some (.int (-1 : Int32))) (fun h => by rw [Bd.returns] at h; cases h)
            refine own_out (own_retI X0 hx Bd.returns (hb hby d6_58) hr) ⟨hrun, hended, _, _, rfl, ?_, ⟨_, rfl⟩, hW, hsame.mono (by decide) (by decide)⟩
            show Q6 Z u0 h0 n0 _ s₁.heap _
            have hv : own_hx u0 = (-1 : Int32) := by
              unfold own_hx
              rw [if_pos hc12, if_neg hc13, if_pos hc16, if_neg hc17, if_pos hc18]
            exact ⟨by rw [hv], N0, e0⟩
          · skip
            refine own_st (fun _ k => XS.icmpNo X0.here hx rfl (hb hby d6_46) rfl (flt hc18).2.2.1 k) ?_
            show own_Go _ _ _ _ (s₁.setTop (mkF m 49 #[.val (.int u0)] []))
            refine own_st (fun _ k => XS.iloadN X0.here hx rfl (hb hby d6_49) rfl k) ?_
            show own_Go _ _ _ _ (s₁.setTop (mkF m 50 #[.val (.int u0)] [(.int u0)]))
            refine own_st (fun _ k => XS.bipush X0.here hx rfl (hb hby d6_50) k) ?_
            show own_Go _ _ _ _ (s₁.setTop (mkF m 52 #[.val (.int u0)] [(.int (65 : Int32)), (.int u0)]))
            refine own_st (fun _ k => XS.isub X0.here hx rfl (hb hby d6_52) rfl k) ?_
            show own_Go _ _ _ _ (s₁.setTop (mkF m 53 #[.val (.int u0)] [(.int (u0 - (65 : Int32)))]))
            refine own_st (fun _ k => XS.bipush X0.here hx rfl (hb hby d6_53) k) ?_
            show own_Go _ _ _ _ (s₁.setTop (mkF m 55 #[.val (.int u0)] [(.int (10 : Int32)), (.int (u0 - (65 : Int32)))]))
            refine own_st (fun _ k => XS.iadd X0.here hx rfl (hb hby d6_55) rfl k) ?_
            show own_Go _ _ _ _ (s₁.setTop (mkF m 56 #[.val (.int u0)] [(.int ((u0 - (65 : Int32)) + (10 : Int32)))]))
            obtain ⟨fs, hr, hrun, hended, hW, hsame⟩ := X0.leave (v := some (.int ((u0 - (65 : Int32)) + (10 : Int32)))) (fun h => by rw [Bd.returns] at h; cases h)
            refine own_out (own_retI X0 hx Bd.returns (hb hby d6_56) hr) ⟨hrun, hended, _, _, rfl, ?_, ⟨_, rfl⟩, hW, hsame.mono (by decide) (by decide)⟩
            show Q6 Z u0 h0 n0 _ s₁.heap _
            have hv : own_hx u0 = ((u0 - (65 : Int32)) + (10 : Int32)) := by
              unfold own_hx
              rw [if_pos hc12, if_neg hc13, if_pos hc16, if_neg hc17, if_neg hc18]
            exact ⟨by rw [hv], N0, e0⟩
      · skip
        refine own_st (fun _ k => XS.icmpNo X0.here hx rfl (hb hby d6_26) rfl (flt hc16).2.2.1 k) ?_
        show own_Go _ _ _ _ (s₁.setTop (mkF m 29 #[.val (.int u0)] []))
        refine own_st (fun _ k => XS.iloadN X0.here hx rfl (hb hby d6_29) rfl k) ?_
        show own_Go _ _ _ _ (s₁.setTop (mkF m 30 #[.val (.int u0)] [(.int u0)]))
        refine own_st (fun _ k => XS.bipush X0.here hx rfl (hb hby d6_30) k) ?_
        show own_Go _ _ _ _ (s₁.setTop (mkF m 32 #[.val (.int u0)] [(.int (97 : Int32)), (.int u0)]))
        refine own_st (fun _ k => XS.isub X0.here hx rfl (hb hby d6_32) rfl k) ?_
        show own_Go _ _ _ _ (s₁.setTop (mkF m 33 #[.val (.int u0)] [(.int (u0 - (97 : Int32)))]))
        refine own_st (fun _ k => XS.bipush X0.here hx rfl (hb hby d6_33) k) ?_
        show own_Go _ _ _ _ (s₁.setTop (mkF m 35 #[.val (.int u0)] [(.int (10 : Int32)), (.int (u0 - (97 : Int32)))]))
        refine own_st (fun _ k => XS.iadd X0.here hx rfl (hb hby d6_35) rfl k) ?_
        show own_Go _ _ _ _ (s₁.setTop (mkF m 36 #[.val (.int u0)] [(.int ((u0 - (97 : Int32)) + (10 : Int32)))]))
        obtain ⟨fs, hr, hrun, hended, hW, hsame⟩ := X0.leave (v := some (.int ((u0 - (97 : Int32)) + (10 : Int32)))) (fun h => by rw [Bd.returns] at h; cases h)
        refine own_out (own_retI X0 hx Bd.returns (hb hby d6_36) hr) ⟨hrun, hended, _, _, rfl, ?_, ⟨_, rfl⟩, hW, hsame.mono (by decide) (by decide)⟩
        show Q6 Z u0 h0 n0 _ s₁.heap _
        have hv : own_hx u0 = ((u0 - (97 : Int32)) + (10 : Int32)) := by
          unfold own_hx
          rw [if_pos hc12, if_neg hc13, if_neg hc16]
        exact ⟨by rw [hv], N0, e0⟩
  · skip
    refine own_st (fun _ k => XS.icmpNo X0.here hx rfl (hb hby d6_3) rfl (flt hc12).1 k) ?_
    show own_Go _ _ _ _ (s₁.setTop (mkF m 6 #[.val (.int u0)] []))
    refine own_st (fun _ k => XS.iloadN X0.here hx rfl (hb hby d6_6) rfl k) ?_
    show own_Go _ _ _ _ (s₁.setTop (mkF m 7 #[.val (.int u0)] [(.int u0)]))
    refine own_st (fun _ k => XS.bipush X0.here hx rfl (hb hby d6_7) k) ?_
    show own_Go _ _ _ _ (s₁.setTop (mkF m 9 #[.val (.int u0)] [(.int (57 : Int32)), (.int u0)]))
    by_cases hc19 : (57 : Int32) < u0
    · skip
      refine own_st (fun _ k => XS.icmpYes X0.here hx rfl (pc0 := 9) (pc' := 17) rfl (hb hby d6_9) rfl (tlt hc19).2.2.1 (by decide) (by decide) k) ?_
      show own_Go _ _ _ _ (s₁.setTop (mkF m 17 #[.val (.int u0)] []))
      refine own_st (fun _ k => XS.iloadN X0.here hx rfl (hb hby d6_17) rfl k) ?_
      show own_Go _ _ _ _ (s₁.setTop (mkF m 18 #[.val (.int u0)] [(.int u0)]))
      refine own_st (fun _ k => XS.bipush X0.here hx rfl (hb hby d6_18) k) ?_
      show own_Go _ _ _ _ (s₁.setTop (mkF m 20 #[.val (.int u0)] [(.int (97 : Int32)), (.int u0)]))
      by_cases hc20 : u0 < (97 : Int32)
      · skip
        refine own_st (fun _ k => XS.icmpYes X0.here hx rfl (pc0 := 20) (pc' := 37) rfl (hb hby d6_20) rfl (tlt hc20).1 (by decide) (by decide) k) ?_
        show own_Go _ _ _ _ (s₁.setTop (mkF m 37 #[.val (.int u0)] []))
        refine own_st (fun _ k => XS.iloadN X0.here hx rfl (hb hby d6_37) rfl k) ?_
        show own_Go _ _ _ _ (s₁.setTop (mkF m 38 #[.val (.int u0)] [(.int u0)]))
        refine own_st (fun _ k => XS.bipush X0.here hx rfl (hb hby d6_38) k) ?_
        show own_Go _ _ _ _ (s₁.setTop (mkF m 40 #[.val (.int u0)] [(.int (65 : Int32)), (.int u0)]))
        by_cases hc21 : u0 < (65 : Int32)
        · skip
          refine own_st (fun _ k => XS.icmpYes X0.here hx rfl (pc0 := 40) (pc' := 57) rfl (hb hby d6_40) rfl (tlt hc21).1 (by decide) (by decide) k) ?_
          show own_Go _ _ _ _ (s₁.setTop (mkF m 57 #[.val (.int u0)] []))
          refine own_st (fun _ k => XS.iconst X0.here hx rfl (hb hby d6_57) k) ?_
          show own_Go _ _ _ _ (s₁.setTop (mkF m 58 #[.val (.int u0)] [(.int (-1 : Int32))]))
          obtain ⟨fs, hr, hrun, hended, hW, hsame⟩ := X0.leave (v := some (.int (-1 : Int32))) (fun h => by rw [Bd.returns] at h; cases h)
          refine own_out (own_retI X0 hx Bd.returns (hb hby d6_58) hr) ⟨hrun, hended, _, _, rfl, ?_, ⟨_, rfl⟩, hW, hsame.mono (by decide) (by decide)⟩
          show Q6 Z u0 h0 n0 _ s₁.heap _
          have hv : own_hx u0 = (-1 : Int32) := by
            unfold own_hx
            rw [if_neg hc12, if_pos hc19, if_pos hc20, if_pos hc21]
          exact ⟨by rw [hv], N0, e0⟩
        · skip
          refine own_st (fun _ k => XS.icmpNo X0.here hx rfl (hb hby d6_40) rfl (flt hc21).1 k) ?_
          show own_Go _ _ _ _ (s₁.setTop (mkF m 43 #[.val (.int u0)] []))
          refine own_st (fun _ k => XS.iloadN X0.here hx rfl (hb hby d6_43) rfl k) ?_
          show own_Go _ _ _ _ (s₁.setTop (mkF m 44 #[.val (.int u0)] [(.int u0)]))
          refine own_st (fun _ k => XS.bipush X0.here hx rfl (hb hby d6_44) k) ?_
          show own_Go _ _ _ _ (s₁.setTop (mkF m 46 #[.val (.int u0)] [(.int (70 : Int32)), (.int u0)]))
          by_cases hc22 : (70 : Int32) < u0
          · skip
            refine own_st (fun _ k => XS.icmpYes X0.here hx rfl (pc0 := 46) (pc' := 57) rfl (hb hby d6_46) rfl (tlt hc22).2.2.1 (by decide) (by decide) k) ?_
            show own_Go _ _ _ _ (s₁.setTop (mkF m 57 #[.val (.int u0)] []))
            refine own_st (fun _ k => XS.iconst X0.here hx rfl (hb hby d6_57) k) ?_
            show own_Go _ _ _ _ (s₁.setTop (mkF m 58 #[.val (.int u0)] [(.int (-1 : Int32))]))
            obtain ⟨fs, hr, hrun, hended, hW, hsame⟩ := X0.leave (v := some (.int (-1 : Int32))) (fun h => by rw [Bd.returns] at h; cases h)
            refine own_out (own_retI X0 hx Bd.returns (hb hby d6_58) hr) ⟨hrun, hended, _, _, rfl, ?_, ⟨_, rfl⟩, hW, hsame.mono (by decide) (by decide)⟩
            show Q6 Z u0 h0 n0 _ s₁.heap _
            have hv : own_hx u0 = (-1 : Int32) := by
              unfold own_hx
              rw [if_neg hc12, if_pos hc19, if_pos hc20, if_neg hc21, if_pos hc22]
            exact ⟨by rw [hv], N0, e0⟩
          · skip
            refine own_st (fun _ k => XS.icmpNo X0.here hx rfl (hb hby d6_46) rfl (flt hc22).2.2.1 k) ?_
            show own_Go _ _ _ _ (s₁.setTop (mkF m 49 #[.val (.int u0)] []))
            refine own_st (fun _ k => XS.iloadN X0.here hx rfl (hb hby d6_49) rfl k) ?_
            show own_Go _ _ _ _ (s₁.setTop (mkF m 50 #[.val (.int u0)] [(.int u0)]))
            refine own_st (fun _ k => XS.bipush X0.here hx rfl (hb hby d6_50) k) ?_
            show own_Go _ _ _ _ (s₁.setTop (mkF m 52 #[.val (.int u0)] [(.int (65 : Int32)), (.int u0)]))
            refine own_st (fun _ k => XS.isub X0.here hx rfl (hb hby d6_52) rfl k) ?_
            show own_Go _ _ _ _ (s₁.setTop (mkF m 53 #[.val (.int u0)] [(.int (u0 - (65 : Int32)))]))
            refine own_st (fun _ k => XS.bipush X0.here hx rfl (hb hby d6_53) k) ?_
            show own_Go _ _ _ _ (s₁.setTop (mkF m 55 #[.val (.int u0)] [(.int (10 : Int32)), (.int (u0 - (65 : Int32)))]))
            refine own_st (fun _ k => XS.iadd X0.here hx rfl (hb hby d6_55) rfl k) ?_
            show own_Go _ _ _ _ (s₁.setTop (mkF m 56 #[.val (.int u0)] [(.int ((u0 - (65 : Int32)) + (10 : Int32)))]))
            obtain ⟨fs, hr, hrun, hended, hW, hsame⟩ := X0.leave (v := some (.int ((u0 - (65 : Int32)) + (10 : Int32)))) (fun h => by rw [Bd.returns] at h; cases h)
            refine own_out (own_retI X0 hx Bd.returns (hb hby d6_56) hr) ⟨hrun, hended, _, _, rfl, ?_, ⟨_, rfl⟩, hW, hsame.mono (by decide) (by decide)⟩
            show Q6 Z u0 h0 n0 _ s₁.heap _
            have hv : own_hx u0 = ((u0 - (65 : Int32)) + (10 : Int32)) := by
              unfold own_hx
              rw [if_neg hc12, if_pos hc19, if_pos hc20, if_neg hc21, if_neg hc22]
            exact ⟨by rw [hv], N0, e0⟩
      · skip
        refine own_st (fun _ k => XS.icmpNo X0.here hx rfl (hb hby d6_20) rfl (flt hc20).1 k) ?_
        show own_Go _ _ _ _ (s₁.setTop (mkF m 23 #[.val (.int u0)] []))
        refine own_st (fun _ k => XS.iloadN X0.here hx rfl (hb hby d6_23) rfl k) ?_
        show own_Go _ _ _ _ (s₁.setTop (mkF m 24 #[.val (.int u0)] [(.int u0)]))
        refine own_st (fun _ k => XS.bipush X0.here hx rfl (hb hby d6_24) k) ?_
        show own_Go _ _ _ _ (s₁.setTop (mkF m 26 #[.val (.int u0)] [(.int (102 : Int32)), (.int u0)]))
        by_cases hc23 : (102 : Int32) < u0
        · skip
          refine own_st (fun _ k => XS.icmpYes X0.here hx rfl (pc0 := 26) (pc' := 37) rfl (hb hby d6_26) rfl (tlt hc23).2.2.1 (by decide) (by decide) k) ?_
          show own_Go _ _ _ _ (s₁.setTop (mkF m 37 #[.val (.int u0)] []))
          refine own_st (fun _ k => XS.iloadN X0.here hx rfl (hb hby d6_37) rfl k) ?_
          show own_Go _ _ _ _ (s₁.setTop (mkF m 38 #[.val (.int u0)] [(.int u0)]))
          refine own_st (fun _ k => XS.bipush X0.here hx rfl (hb hby d6_38) k) ?_
          show own_Go _ _ _ _ (s₁.setTop (mkF m 40 #[.val (.int u0)] [(.int (65 : Int32)), (.int u0)]))
          by_cases hc24 : u0 < (65 : Int32)
          · skip
            refine own_st (fun _ k => XS.icmpYes X0.here hx rfl (pc0 := 40) (pc' := 57) rfl (hb hby d6_40) rfl (tlt hc24).1 (by decide) (by decide) k) ?_
            show own_Go _ _ _ _ (s₁.setTop (mkF m 57 #[.val (.int u0)] []))
            refine own_st (fun _ k => XS.iconst X0.here hx rfl (hb hby d6_57) k) ?_
            show own_Go _ _ _ _ (s₁.setTop (mkF m 58 #[.val (.int u0)] [(.int (-1 : Int32))]))
            obtain ⟨fs, hr, hrun, hended, hW, hsame⟩ := X0.leave (v := some (.int (-1 : Int32))) (fun h => by rw [Bd.returns] at h; cases h)
            refine own_out (own_retI X0 hx Bd.returns (hb hby d6_58) hr) ⟨hrun, hended, _, _, rfl, ?_, ⟨_, rfl⟩, hW, hsame.mono (by decide) (by decide)⟩
            show Q6 Z u0 h0 n0 _ s₁.heap _
            have hv : own_hx u0 = (-1 : Int32) := by
              unfold own_hx
              rw [if_neg hc12, if_pos hc19, if_neg hc20, if_pos hc23, if_pos hc24]
            exact ⟨by rw [hv], N0, e0⟩
          · skip
            refine own_st (fun _ k => XS.icmpNo X0.here hx rfl (hb hby d6_40) rfl (flt hc24).1 k) ?_
            show own_Go _ _ _ _ (s₁.setTop (mkF m 43 #[.val (.int u0)] []))
            refine own_st (fun _ k => XS.iloadN X0.here hx rfl (hb hby d6_43) rfl k) ?_
            show own_Go _ _ _ _ (s₁.setTop (mkF m 44 #[.val (.int u0)] [(.int u0)]))
            refine own_st (fun _ k => XS.bipush X0.here hx rfl (hb hby d6_44) k) ?_
            show own_Go _ _ _ _ (s₁.setTop (mkF m 46 #[.val (.int u0)] [(.int (70 : Int32)), (.int u0)]))
            by_cases hc25 : (70 : Int32) < u0
            · skip
              refine own_st (fun _ k => XS.icmpYes X0.here hx rfl (pc0 := 46) (pc' := 57) rfl (hb hby d6_46) rfl (tlt hc25).2.2.1 (by decide) (by decide) k) ?_
              show own_Go _ _ _ _ (s₁.setTop (mkF m 57 #[.val (.int u0)] []))
              refine own_st (fun _ k => XS.iconst X0.here hx rfl (hb hby d6_57) k) ?_
              show own_Go _ _ _ _ (s₁.setTop (mkF m 58 #[.val (.int u0)] [(.int (-1 : Int32))]))
              obtain ⟨fs, hr, hrun, hended, hW, hsame⟩ := X0.leave (v := some (.int (-1 : Int32))) (fun h => by rw [Bd.returns] at h; cases h)
              refine own_out (own_retI X0 hx Bd.returns (hb hby d6_58) hr) ⟨hrun, hended, _, _, rfl, ?_, ⟨_, rfl⟩, hW, hsame.mono (by decide) (by decide)⟩
              show Q6 Z u0 h0 n0 _ s₁.heap _
              have hv : own_hx u0 = (-1 : Int32) := by
                unfold own_hx
                rw [if_neg hc12, if_pos hc19, if_neg hc20, if_pos hc23, if_neg hc24, if_pos hc25]
              exact ⟨by rw [hv], N0, e0⟩
            · skip
              refine own_st (fun _ k => XS.icmpNo X0.here hx rfl (hb hby d6_46) rfl (flt hc25).2.2.1 k) ?_
              show own_Go _ _ _ _ (s₁.setTop (mkF m 49 #[.val (.int u0)] []))
              refine own_st (fun _ k => XS.iloadN X0.here hx rfl (hb hby d6_49) rfl k) ?_
              show own_Go _ _ _ _ (s₁.setTop (mkF m 50 #[.val (.int u0)] [(.int u0)]))
              refine own_st (fun _ k => XS.bipush X0.here hx rfl (hb hby d6_50) k) ?_
              show own_Go _ _ _ _ (s₁.setTop (mkF m 52 #[.val (.int u0)] [(.int (65 : Int32)), (.int u0)]))
              refine own_st (fun _ k => XS.isub X0.here hx rfl (hb hby d6_52) rfl k) ?_
              show own_Go _ _ _ _ (s₁.setTop (mkF m 53 #[.val (.int u0)] [(.int (u0 - (65 : Int32)))]))
              refine own_st (fun _ k => XS.bipush X0.here hx rfl (hb hby d6_53) k) ?_
              show own_Go _ _ _ _ (s₁.setTop (mkF m 55 #[.val (.int u0)] [(.int (10 : Int32)), (.int (u0 - (65 : Int32)))]))
              refine own_st (fun _ k => XS.iadd X0.here hx rfl (hb hby d6_55) rfl k) ?_
              show own_Go _ _ _ _ (s₁.setTop (mkF m 56 #[.val (.int u0)] [(.int ((u0 - (65 : Int32)) + (10 : Int32)))]))
              obtain ⟨fs, hr, hrun, hended, hW, hsame⟩ := X0.leave (v := some (.int ((u0 - (65 : Int32)) + (10 : Int32)))) (fun h => by rw [Bd.returns] at h; cases h)
              refine own_out (own_retI X0 hx Bd.returns (hb hby d6_56) hr) ⟨hrun, hended, _, _, rfl, ?_, ⟨_, rfl⟩, hW, hsame.mono (by decide) (by decide)⟩
              show Q6 Z u0 h0 n0 _ s₁.heap _
              have hv : own_hx u0 = ((u0 - (65 : Int32)) + (10 : Int32)) := by
                unfold own_hx
                rw [if_neg hc12, if_pos hc19, if_neg hc20, if_pos hc23, if_neg hc24, if_neg hc25]
              exact ⟨by rw [hv], N0, e0⟩
        · skip
          refine own_st (fun _ k => XS.icmpNo X0.here hx rfl (hb hby d6_26) rfl (flt hc23).2.2.1 k) ?_
          show own_Go _ _ _ _ (s₁.setTop (mkF m 29 #[.val (.int u0)] []))
          refine own_st (fun _ k => XS.iloadN X0.here hx rfl (hb hby d6_29) rfl k) ?_
          show own_Go _ _ _ _ (s₁.setTop (mkF m 30 #[.val (.int u0)] [(.int u0)]))
          refine own_st (fun _ k => XS.bipush X0.here hx rfl (hb hby d6_30) k) ?_
          show own_Go _ _ _ _ (s₁.setTop (mkF m 32 #[.val (.int u0)] [(.int (97 : Int32)), (.int u0)]))
          refine own_st (fun _ k => XS.isub X0.here hx rfl (hb hby d6_32) rfl k) ?_
          show own_Go _ _ _ _ (s₁.setTop (mkF m 33 #[.val (.int u0)] [(.int (u0 - (97 : Int32)))]))
          refine own_st (fun _ k => XS.bipush X0.here hx rfl (hb hby d6_33) k) ?_
          show own_Go _ _ _ _ (s₁.setTop (mkF m 35 #[.val (.int u0)] [(.int (10 : Int32)), (.int (u0 - (97 : Int32)))]))
          refine own_st (fun _ k => XS.iadd X0.here hx rfl (hb hby d6_35) rfl k) ?_
          show own_Go _ _ _ _ (s₁.setTop (mkF m 36 #[.val (.int u0)] [(.int ((u0 - (97 : Int32)) + (10 : Int32)))]))
          obtain ⟨fs, hr, hrun, hended, hW, hsame⟩ := X0.leave (v := some (.int ((u0 - (97 : Int32)) + (10 : Int32)))) (fun h => by rw [Bd.returns] at h; cases h)
          refine own_out (own_retI X0 hx Bd.returns (hb hby d6_36) hr) ⟨hrun, hended, _, _, rfl, ?_, ⟨_, rfl⟩, hW, hsame.mono (by decide) (by decide)⟩
          show Q6 Z u0 h0 n0 _ s₁.heap _
          have hv : own_hx u0 = ((u0 - (97 : Int32)) + (10 : Int32)) := by
            unfold own_hx
            rw [if_neg hc12, if_pos hc19, if_neg hc20, if_neg hc23]
          exact ⟨by rw [hv], N0, e0⟩
    · skip
      refine own_st (fun _ k => XS.icmpNo X0.here hx rfl (hb hby d6_9) rfl (flt hc19).2.2.1 k) ?_
      show own_Go _ _ _ _ (s₁.setTop (mkF m 12 #[.val (.int u0)] []))
      refine own_st (fun _ k => XS.iloadN X0.here hx rfl (hb hby d6_12) rfl k) ?_
      show own_Go _ _ _ _ (s₁.setTop (mkF m 13 #[.val (.int u0)] [(.int u0)]))
      refine own_st (fun _ k => XS.bipush X0.here hx rfl (hb hby d6_13) k) ?_
      show own_Go _ _ _ _ (s₁.setTop (mkF m 15 #[.val (.int u0)] [(.int (48 : Int32)), (.int u0)]))
      refine own_st (fun _ k => XS.isub X0.here hx rfl (hb hby d6_15) rfl k) ?_
      show own_Go _ _ _ _ (s₁.setTop (mkF m 16 #[.val (.int u0)] [(.int (u0 - (48 : Int32)))]))
      obtain ⟨fs, hr, hrun, hended, hW, hsame⟩ := X0.leave (v := some (.int (u0 - (48 : Int32)))) (fun h => by rw [Bd.returns] at h; cases h)
      refine own_out (own_retI X0 hx Bd.returns (hb hby d6_16) hr) ⟨hrun, hended, _, _, rfl, ?_, ⟨_, rfl⟩, hW, hsame.mono (by decide) (by decide)⟩
      show Q6 Z u0 h0 n0 _ s₁.heap _
      have hv : own_hx u0 = (u0 - (48 : Int32)) := by
        unfold own_hx
        rw [if_neg hc12, if_neg hc19]
      exact ⟨by rw [hv], N0, e0⟩
theorem own_d0 (u : Int32) : ¬ (u &&& (15 : Int32)) < (0 : Int32) := by
  have m := c_mask u 15 4 (by decide) (by decide)
  simp only [Int32.lt_iff_toInt_lt, Int32.reduceToInt]; omega
theorem own_d1 (u : Int32) : (u &&& (15 : Int32)) < (16 : Int32) := by
  have m := c_mask u 15 4 (by decide) (by decide)
  simp only [Int32.lt_iff_toInt_lt, Int32.reduceToInt]; omega
theorem own_tab : ∀ n, n < 16 → own_hx (own_cat own_lo (Int32.ofNat n)) = Int32.ofNat n ∧ own_hx (own_cat own_up (Int32.ofNat n)) = Int32.ofNat n := by decide +kernel
theorem own_rt (d : Int32) (h0 : ¬ d < (0 : Int32)) (h1 : d < (16 : Int32)) : own_hx (own_cat own_lo d) = d ∧ own_hx (own_cat own_up d) = d := by
  have e : Int32.ofNat d.toNatClampNeg = d := (back32 h0).1
  have hlt : d.toNatClampNeg < 16 := by
    have := nat_of h0
    simp only [Int32.lt_iff_toInt_lt, Int32.reduceToInt] at h1
    omega
  have t := own_tab _ hlt
  rw [e] at t; exact t
def own_S (c : Int32) : Prop := (¬ own_hx c < (0 : Int32) ∧ own_hx c < (16 : Int32)) ∧ (c = own_cat own_lo (own_hx c) ∨ c = own_cat own_up (own_hx c))
theorem own_t1 : ∀ n, n < 10 → own_S (Int32.ofNat (48 + n)) := by unfold own_S; decide +kernel
theorem own_t2 : ∀ n, n < 6 → own_S (Int32.ofNat (97 + n)) := by unfold own_S; decide +kernel
theorem own_t3 : ∀ n, n < 6 → own_S (Int32.ofNat (65 + n)) := by unfold own_S; decide +kernel
theorem own_rng (c : Int32) (a b : Nat) (ha : a < 1000) (hb : b < 1000) (h1 : ¬ c < Int32.ofNat a) (h2 : ¬ Int32.ofNat b < c) : ∃ n, n < b + 1 - a ∧ c = Int32.ofNat (a + n) := by
  have ea : (Int32.ofNat a).toInt = a := Int32.toInt_ofNat_small (by omega)
  have eb : (Int32.ofNat b).toInt = b := Int32.toInt_ofNat_small (by omega)
  rw [Int32.lt_iff_toInt_lt] at h1 h2
  refine ⟨c.toInt.toNat - a, by omega, ?_⟩
  apply Int32.toInt_inj.mp
  rw [Int32.toInt_ofNat_small (by omega)]
  omega
/-- what a char that is no -1 is worth, is found again -/
theorem own_sound (c : Int32) (h : ¬ own_hx c = (-1 : Int32)) : own_S c := by
  by_cases a1 : ¬ c < Int32.ofNat 48 ∧ ¬ Int32.ofNat 57 < c
  · obtain ⟨n, hn, e⟩ := own_rng c 48 57 (by decide) (by decide) a1.1 a1.2
    rw [e]; exact own_t1 n hn
  by_cases a2 : ¬ c < Int32.ofNat 97 ∧ ¬ Int32.ofNat 102 < c
  · obtain ⟨n, hn, e⟩ := own_rng c 97 102 (by decide) (by decide) a2.1 a2.2
    rw [e]; exact own_t2 n hn
  by_cases a3 : ¬ c < Int32.ofNat 65 ∧ ¬ Int32.ofNat 70 < c
  · obtain ⟨n, hn, e⟩ := own_rng c 65 70 (by decide) (by decide) a3.1 a3.2
    rw [e]; exact own_t3 n hn
  exfalso
  apply h
  have e1 : Int32.ofNat 48 = 48 := rfl
  have e2 : Int32.ofNat 57 = 57 := rfl
  have e3 : Int32.ofNat 97 = 97 := rfl
  have e4 : Int32.ofNat 102 = 102 := rfl
  have e5 : Int32.ofNat 65 = 65 := rfl
  have e6 : Int32.ofNat 70 = 70 := rfl
  rw [e1, e2] at a1
  rw [e3, e4] at a2
  rw [e5, e6] at a3
  clear e1 e2 e3 e4 e5 e6 h
  unfold own_hx
  repeat' split
  all_goals first | rfl | (exfalso; simp only [Int32.lt_iff_toInt_lt, Int32.reduceToInt] at *; omega)
theorem own_nolo (c d : Int32) (h0 : ¬ d < (0 : Int32)) (h1 : d < (16 : Int32)) (h : own_hx c = (-1 : Int32)) : ¬ c = own_cat own_lo d ∧ ¬ c = own_cat own_up d := by
  have r := own_rt d h0 h1
  constructor
  · intro q; rw [← q, h] at r; rw [← r.1] at h0; exact h0 (by decide)
  · intro q; rw [← q, h] at r; rw [← r.2] at h0; exact h0 (by decide)
theorem own_pd6 : parseMethodDescriptor "(II)Z" = some ⟨[.int, .int], some .boolean⟩ := by decide +kernel
theorem own_pn4 : plainName "com/example/web_dispatch/webdispatch/http/PercentEncodingHexValuePinLaw" = true := by first | (simp [plainName, overriddenIn]; done) | decide +kernel
def Q0 (Z : State) (u0 : Int32) (u1 : Int32) (h0 : Heap) (n0 : Nat) (v : Option Value) (h : Heap) (L : List Loc) : Prop := v = some (.int 1) ∧ Fr n0 L
theorem ef_0 (m : MethodId) (x0 : Int32) (x1 : Int32) : entryFrame m #[(.int x0), (.int x1)] maxLocals = mkF m 0 #[.val (.int x0), .val (.int x1), .unset, .unset, .unset] [] := by first | (simp [entryFrame, mkF, argsToLocals, Value.category, maxLocals]; done) | rfl
set_option maxRecDepth 65536 in
set_option maxHeartbeats 40000000 in
theorem rm0 (l : Launch) (Z : State) (a0 : Array Value) (hw : ∀ d ∈ tables_1, d.before a0 Z = true) (ws : List Jvm.Cond) (u0 : Int32) (u1 : Int32) (fv : Value) (G1 : Int32) (h0 : Heap) (n0 : Nat) (hh0 : Z.heap = h0) (hn0 : n0 = h0.size) (S1 : Sta Z h0 "java/lang/String" "COMPACT_STRINGS" "Z" (.int G1)) (hG : ¬ (G1 = (0 : Int32))) (S3 : Sta Z h0 "jdk/internal/util/Preconditions" "SIOOBE_FORMATTER" "Ljava/util/function/BiFunction;" fv) (rG : fv.isRef = true) (hcw : Jvm.Lit.compactW.before a0 Z = true) (hc7 : Jvm.Lit.constHeld Z "com/example/web_dispatch/webdispatch/http/PercentEncodingHexValuePinLaw" 7) (hc21 : Jvm.Lit.constHeld Z "com/example/web_dispatch/webdispatch/http/PercentEncodingHexValuePinLaw" 21) :
    MetFree l x (head1 (Jvm.Cond.code x code maxLocals ret :: ws) room_1) (fun a U => a = #[(.int u0), (.int u1)] ∧ Z = U) (fun _ _ _ _ _ => True) (fun _ U o U' => ∃ v L, o = .returned v ∧ Q0 Z u0 u1 h0 n0 v U'.heap L ∧ ReturnedEndW U o U' L 8 2112) := by
  refine MetFree.of_bodySF (plainFor_of_name own_pn4) hisR ?_
  intro p e s m args below meth c s₁ Bd hml0 hP hK
  obtain ⟨rfl, hU⟩ := hP
  subst hU
  have hx := Bd.exec
  have hby := Bd.bytes
  have hml : c.maxLocals = 5 := hml0
  have hown : Z.vm.findClass "com/example/web_dispatch/webdispatch/http/PercentEncodingHexValuePinLaw" = some m.cls := findClass_of_methodNamed Bd.named
  have hnm := (name_of_methodNamed Bd.named Bd.method).1
  have X0 : Stand p l e room_1 (Z.setVm Z.vm) m #[(.int u0), (.int u1)] below meth c s₁ [] 0 0 := Stand.of_body Bd
  have e0 : s₁.heap = h0 := by rw [← hh0, Bd.state]; rfl
  have N0 := Fr.nil n0
  have Z0 : n0 ≤ h0.size := Nat.le_of_eq hn0
  have hZ : Z.Warmed39 Z.vm := State.Warmed39.refl Z
  have hsz : Z.heap.size = n0 := by rw [hh0, hn0]
  have hS : Z.Since Z.vm h0.size := (State.WarmedH.refl Z).since _
  have hk : h0.size ≤ h0.size := Nat.le_refl _
  have IB0 : IB Z Z.vm [] := IB.start
  have hwS : ∀ d ∈ Bundle.stringAtoms, d.before a0 Z = true := fun d hd => hw d (own_atoms d hd)
  refine own_in ?_
  refine own_st (fun _ k => castTop (ef_0 m u0 u1) k) ?_
  have K0 : Keep h0 h0 [] := Keep.refl h0 []
  show own_Go _ _ _ _ (s₁.setTop (mkF m 0 #[.val (.int u0), .val (.int u1), .unset, .unset, .unset] []))
  refine own_st (fun _ k => XS.iloadN X0.here hx rfl (hb hby at_0) rfl k) ?_
  show own_Go _ _ _ _ (s₁.setTop (mkF m 1 #[.val (.int u0), .val (.int u1), .unset, .unset, .unset] [(.int u0)]))
  refine own_st (fun _ k => XS.i2c X0.here hx rfl (hb hby at_1) rfl k) ?_
  show own_Go _ _ _ _ (s₁.setTop (mkF m 2 #[.val (.int u0), .val (.int u1), .unset, .unset, .unset] [(.int (u0.toUInt32.toUInt16.toUInt32.toInt32))]))
  refine own_st (fun _ k => XS.istoreN X0.here hx rfl (hb hby at_2) rfl (l' := #[.val (.int u0), .val (.int u1), .val (.int (u0.toUInt32.toUInt16.toUInt32.toInt32)), .unset, .unset]) rfl k) ?_
  show own_Go _ _ _ _ (s₁.setTop (mkF m 3 #[.val (.int u0), .val (.int u1), .val (.int (u0.toUInt32.toUInt16.toUInt32.toInt32)), .unset, .unset] []))
  refine own_st (fun _ k => XS.iloadN X0.here hx rfl (hb hby at_3) rfl k) ?_
  show own_Go _ _ _ _ (s₁.setTop (mkF m 4 #[.val (.int u0), .val (.int u1), .val (.int (u0.toUInt32.toUInt16.toUInt32.toInt32)), .unset, .unset] [(.int u1)]))
  refine own_st (fun _ k => XS.bipush X0.here hx rfl (hb hby at_4) k) ?_
  show own_Go _ _ _ _ (s₁.setTop (mkF m 6 #[.val (.int u0), .val (.int u1), .val (.int (u0.toUInt32.toUInt16.toUInt32.toInt32)), .unset, .unset] [(.int (15 : Int32)), (.int u1)]))
  refine own_st (fun _ k => XS.iand X0.here hx rfl (hb hby at_6) rfl k) ?_
  show own_Go _ _ _ _ (s₁.setTop (mkF m 7 #[.val (.int u0), .val (.int u1), .val (.int (u0.toUInt32.toUInt16.toUInt32.toInt32)), .unset, .unset] [(.int (u1 &&& (15 : Int32)))]))
  refine own_st (fun _ k => XS.istoreN X0.here hx rfl (hb hby at_7) rfl (l' := #[.val (.int u0), .val (.int u1), .val (.int (u0.toUInt32.toUInt16.toUInt32.toInt32)), .val (.int (u1 &&& (15 : Int32))), .unset]) rfl k) ?_
  show own_Go _ _ _ _ (s₁.setTop (mkF m 8 #[.val (.int u0), .val (.int u1), .val (.int (u0.toUInt32.toUInt16.toUInt32.toInt32)), .val (.int (u1 &&& (15 : Int32))), .unset] []))
  obtain ⟨a26, T26, h26, kc26, b26, k26, X26, e26, E26, hS26, hk26, hZ, hown, A26, Fc26, Fv26, V26, la26, lb26, IB26, Li26, st26⟩ := ldcSVL (s := Z) (vm0 := Z.vm) X0 hx hZ hown (hw _ (List.mem_of_getElem? (i := 0) rfl)) hwS e0 ((State.WarmedH.refl Z).since h0.size) (Nat.le_refl _) (by show Fr Z.heap.size _; rw [hsz]; exact N0) (fun _ _ q => q) IB0 (by decide) hc7 hcw (vs := own_lo.map Value.int) (z := (16 : Int32)) ⟨by decide, by rfl⟩ (by decide) (by decide) (g := (mkF m 8 #[.val (.int u0), .val (.int u1), .val (.int (u0.toUInt32.toUInt16.toUInt32.toInt32)), .val (.int (u1 &&& (15 : Int32))), .unset] [])) rfl (hb hby at_8) (n := 64) (by decide) (by decide) (by decide) (by decide)
  have hSx26 := hS26
  have hS : Z.Since T26.vm h26.size := State.Since.trans (vm₁ := Z.vm) hS (own_smono hS26 hk26) E26.1
  have hk : h26.size ≤ h26.size := Nat.le_refl _
  refine own_st st26 ?_
  have x26_S_java_lang_String_COMPACT_STRINGS := S1.ext E26
  have x26_S_jdk_internal_util_Preconditions_SIOOBE_FORMATTER := S3.ext E26
  have Z26 : n0 ≤ h26.size := Nat.le_trans Z0 E26.1
  have K26 : Keep h0 h26 [] := K0.ext E26
  show own_Go _ _ _ _ (T26.setTop (mkF m 10 #[.val (.int u0), .val (.int u1), .val (.int (u0.toUInt32.toUInt16.toUInt32.toInt32)), .val (.int (u1 &&& (15 : Int32))), .unset] [(.ref a26)]))
  refine own_st (fun _ k => XS.iloadN X26.here hx rfl (hb hby at_10) rfl k) ?_
  show own_Go _ _ _ _ (T26.setTop (mkF m 11 #[.val (.int u0), .val (.int u1), .val (.int (u0.toUInt32.toUInt16.toUInt32.toInt32)), .val (.int (u1 &&& (15 : Int32))), .unset] [(.int (u1 &&& (15 : Int32))), (.ref a26)]))
  obtain ⟨cq27, kq27, q27a, q27b, q27c⟩ := isOf hZ e26 A26
  obtain ⟨_, _, ⟨T27, L27, k27, n27⟩, -, X27, ⟨Lc27, hQ27, l27, y27, z27⟩, st27⟩ := X26.virtualBack hx (y := (⟨"java/lang/String", "charAt", "(I)C"⟩ : MethodName)) (z := (⟨"java/lang/String", "charAt", "(I)C"⟩ : MethodName)) hown (mvT hZ (hw _ (List.mem_of_getElem? (i := 8) rfl))) (mvT hZ (hw _ (List.mem_of_getElem? (i := 9) rfl))) (notFace_of_selects (args := #[]) (mvT hZ (hw _ (List.mem_of_getElem? (i := 11) rfl)))) (mvT hZ (hw _ (List.mem_of_getElem? (i := 11) rfl))) (mvT hZ (hw _ (List.mem_of_getElem? (i := 10) rfl))) (by decide) (backOf (W := 0) (rm1 l Z a0 hw [] a26 b26 k26 own_lo (u1 &&& (15 : Int32)) fv G1 h26 n0 Z26 x26_S_java_lang_String_COMPACT_STRINGS hG x26_S_jdk_internal_util_Preconditions_SIOOBE_FORMATTER rG A26 Fc26 Fv26 V26 (own_d0 u1) (own_d1 u1)) hZ (hw _ (List.mem_of_getElem? (i := 12) rfl)) (hw _ (List.mem_of_getElem? (i := 1) rfl)) (by decide) (by decide)) q27a q27c (g := (mkF m 11 #[.val (.int u0), .val (.int u1), .val (.int (u0.toUInt32.toUInt16.toUInt32.toInt32)), .val (.int (u1 &&& (15 : Int32))), .unset] [(.int (u1 &&& (15 : Int32))), (.ref a26)])) rfl (by rw [hml]; rfl) (Steps.refl _) (argsL := [(.int (u1 &&& (15 : Int32)))]) (rest := []) (lenOf own_pd4 rfl) rfl (by show 2 * 0 + _ ≤ _; exact Nat.le_of_eq rfl) (hb hby at_11) (fun _ _ => ⟨rfl, e26, (by decide : 2 + 0 ≤ _), (by decide : 68 + 0 ≤ _)⟩)
  dsimp only [Pt.U, Pt.locs, Pt.cells, Pt.slots] at X27 l27 y27 z27 st27 hQ27
  subst l27 y27 z27
  obtain ⟨rfl, Nq27, eq27⟩ := hQ27
  have N27 := Fr.app N0 Nq27
  refine own_tr st27 ?_
  show own_Go _ _ _ _ (T27.setTop (mkF m 14 #[.val (.int u0), .val (.int u1), .val (.int (u0.toUInt32.toUInt16.toUInt32.toInt32)), .val (.int (u1 &&& (15 : Int32))), .unset] [(.int (own_cat own_lo (u1 &&& (15 : Int32))))]))
  obtain ⟨_, _, ⟨T28, L28, k28, n28⟩, -, X28, ⟨Lc28, hQ28, l28, y28, z28⟩, st28⟩ := Jvm.LawKit.callS X27 hx (y := (⟨"com/example/web_dispatch/webdispatch/http/PercentEncoding", "hexValue", "(C)I"⟩ : MethodName)) hown (mvT hZ (hw _ (List.mem_of_getElem? (i := 33) rfl))) (mvT hZ (hw _ (List.mem_of_getElem? (i := 34) rfl))) (mvT hZ (hw _ (List.mem_of_getElem? (i := 35) rfl))) (mvT hZ (hw _ (List.mem_of_getElem? (i := 36) rfl))) (by decide) (backOf (W := 0) (rm6 l Z a0 hw [] (own_cat own_lo (u1 &&& (15 : Int32))) h26 n0 Z26 ) hZ (hw _ (List.mem_of_getElem? (i := 36) rfl)) (hw _ (List.mem_of_getElem? (i := 35) rfl)) (by decide) (by decide)) (g := (mkF m 14 #[.val (.int u0), .val (.int u1), .val (.int (u0.toUInt32.toUInt16.toUInt32.toInt32)), .val (.int (u1 &&& (15 : Int32))), .unset] [(.int (own_cat own_lo (u1 &&& (15 : Int32))))])) rfl (by rw [hml]; rfl) (argsL := [(.int (own_cat own_lo (u1 &&& (15 : Int32))))]) (rest := []) (lenOf own_pd5 rfl) rfl (by show 2 * 0 + _ ≤ _; exact Nat.le_of_eq rfl) (hb hby at_14) (fun _ _ => ⟨rfl, eq27, (by decide : 2 + 0 ≤ _), (by decide : 68 + 0 ≤ _)⟩)
  dsimp only [Pt.U, Pt.locs, Pt.cells, Pt.slots] at X28 l28 y28 z28 st28 hQ28
  subst l28 y28 z28
  obtain ⟨rfl, Nq28, eq28⟩ := hQ28
  have N28 := Fr.app N27 Nq28
  refine own_st st28 ?_
  show own_Go _ _ _ _ (T28.setTop (mkF m 17 #[.val (.int u0), .val (.int u1), .val (.int (u0.toUInt32.toUInt16.toUInt32.toInt32)), .val (.int (u1 &&& (15 : Int32))), .unset] [(.int (own_hx (own_cat own_lo (u1 &&& (15 : Int32)))))]))
  refine own_st (fun _ k => XS.iloadN X28.here hx rfl (hb hby at_17) rfl k) ?_
  show own_Go _ _ _ _ (T28.setTop (mkF m 18 #[.val (.int u0), .val (.int u1), .val (.int (u0.toUInt32.toUInt16.toUInt32.toInt32)), .val (.int (u1 &&& (15 : Int32))), .unset] [(.int (u1 &&& (15 : Int32))), (.int (own_hx (own_cat own_lo (u1 &&& (15 : Int32)))))]))
  refine own_st (fun _ k => XS.icmpYes X28.here hx rfl (pc0 := 18) (pc' := 23) rfl (hb hby at_18) rfl (teq (own_rt _ (own_d0 u1) (own_d1 u1)).1).1 (by decide) (by decide) k) ?_
  show own_Go _ _ _ _ (T28.setTop (mkF m 23 #[.val (.int u0), .val (.int u1), .val (.int (u0.toUInt32.toUInt16.toUInt32.toInt32)), .val (.int (u1 &&& (15 : Int32))), .unset] []))
  obtain ⟨a29, T29, h29, kc29, b29, k29, X29, e29, E29, hS29, hk29, hZ, hown, A29, Fc29, Fv29, V29, la29, lb29, IB29, Li29, st29⟩ := ldcSVL (s := (Z.setVm T26.vm)) (vm0 := T26.vm) X28 hx hZ hown (hw _ (List.mem_of_getElem? (i := 37) rfl)) hwS eq28 ((State.WarmedH.refl (Z.setVm T26.vm)).since h26.size) (Nat.le_refl _) (by show Fr Z.heap.size _; rw [hsz]; exact N28) (fun _ _ q => q) (IB26) (by decide) hc21 hcw (vs := own_up.map Value.int) (z := (16 : Int32)) ⟨by decide, by rfl⟩ (by decide) (by decide) (g := (mkF m 23 #[.val (.int u0), .val (.int u1), .val (.int (u0.toUInt32.toUInt16.toUInt32.toInt32)), .val (.int (u1 &&& (15 : Int32))), .unset] [])) rfl (hb hby at_23) (n := 64) (by decide) (by decide) (by decide) (by decide)
  have hSx29 := hS29
  have hS : Z.Since T29.vm h29.size := State.Since.trans (vm₁ := T26.vm) hS (own_smono hS29 hk29) E29.1
  have hk : h29.size ≤ h29.size := Nat.le_refl _
  refine own_st st29 ?_
  have x29_S_java_lang_String_COMPACT_STRINGS := x26_S_java_lang_String_COMPACT_STRINGS.ext E29
  have x29_S_jdk_internal_util_Preconditions_SIOOBE_FORMATTER := x26_S_jdk_internal_util_Preconditions_SIOOBE_FORMATTER.ext E29
  have x29_E_a26 := A26.ext E29
  have x29_F_a26_coder := Fc26.ext E29
  have x29_F_a26_value := Fv26.ext E29
  have x29_V_b26 := V26.ext E29
  have Z29 : n0 ≤ h29.size := Nat.le_trans Z26 E29.1
  have K29 : Keep h0 h29 [] := K26.ext E29
  have Lj29_7 := Lit.stays Li26 hSx29.1
  show own_Go _ _ _ _ (T29.setTop (mkF m 25 #[.val (.int u0), .val (.int u1), .val (.int (u0.toUInt32.toUInt16.toUInt32.toInt32)), .val (.int (u1 &&& (15 : Int32))), .unset] [(.ref a29)]))
  refine own_st (fun _ k => XS.iloadN X29.here hx rfl (hb hby at_25) rfl k) ?_
  show own_Go _ _ _ _ (T29.setTop (mkF m 26 #[.val (.int u0), .val (.int u1), .val (.int (u0.toUInt32.toUInt16.toUInt32.toInt32)), .val (.int (u1 &&& (15 : Int32))), .unset] [(.int (u1 &&& (15 : Int32))), (.ref a29)]))
  obtain ⟨cq30, kq30, q30a, q30b, q30c⟩ := isOf hZ e29 A29
  obtain ⟨_, _, ⟨T30, L30, k30, n30⟩, -, X30, ⟨Lc30, hQ30, l30, y30, z30⟩, st30⟩ := X29.virtualBack hx (y := (⟨"java/lang/String", "charAt", "(I)C"⟩ : MethodName)) (z := (⟨"java/lang/String", "charAt", "(I)C"⟩ : MethodName)) hown (mvT hZ (hw _ (List.mem_of_getElem? (i := 8) rfl))) (mvT hZ (hw _ (List.mem_of_getElem? (i := 9) rfl))) (notFace_of_selects (args := #[]) (mvT hZ (hw _ (List.mem_of_getElem? (i := 11) rfl)))) (mvT hZ (hw _ (List.mem_of_getElem? (i := 11) rfl))) (mvT hZ (hw _ (List.mem_of_getElem? (i := 10) rfl))) (by decide) (backOf (W := 0) (rm1 l Z a0 hw [] a29 b29 k29 own_up (u1 &&& (15 : Int32)) fv G1 h29 n0 Z29 x29_S_java_lang_String_COMPACT_STRINGS hG x29_S_jdk_internal_util_Preconditions_SIOOBE_FORMATTER rG A29 Fc29 Fv29 V29 (own_d0 u1) (own_d1 u1)) hZ (hw _ (List.mem_of_getElem? (i := 12) rfl)) (hw _ (List.mem_of_getElem? (i := 1) rfl)) (by decide) (by decide)) q30a q30c (g := (mkF m 26 #[.val (.int u0), .val (.int u1), .val (.int (u0.toUInt32.toUInt16.toUInt32.toInt32)), .val (.int (u1 &&& (15 : Int32))), .unset] [(.int (u1 &&& (15 : Int32))), (.ref a29)])) rfl (by rw [hml]; rfl) (Steps.refl _) (argsL := [(.int (u1 &&& (15 : Int32)))]) (rest := []) (lenOf own_pd4 rfl) rfl (by show 2 * 0 + _ ≤ _; exact Nat.le_of_eq rfl) (hb hby at_26) (fun _ _ => ⟨rfl, e29, (by decide : 4 + 0 ≤ _), (by decide : 136 + 0 ≤ _)⟩)
  dsimp only [Pt.U, Pt.locs, Pt.cells, Pt.slots] at X30 l30 y30 z30 st30 hQ30
  subst l30 y30 z30
  obtain ⟨rfl, Nq30, eq30⟩ := hQ30
  have N30 := Fr.app N28 Nq30
  refine own_tr st30 ?_
  show own_Go _ _ _ _ (T30.setTop (mkF m 29 #[.val (.int u0), .val (.int u1), .val (.int (u0.toUInt32.toUInt16.toUInt32.toInt32)), .val (.int (u1 &&& (15 : Int32))), .unset] [(.int (own_cat own_up (u1 &&& (15 : Int32))))]))
  obtain ⟨_, _, ⟨T31, L31, k31, n31⟩, -, X31, ⟨Lc31, hQ31, l31, y31, z31⟩, st31⟩ := Jvm.LawKit.callS X30 hx (y := (⟨"com/example/web_dispatch/webdispatch/http/PercentEncoding", "hexValue", "(C)I"⟩ : MethodName)) hown (mvT hZ (hw _ (List.mem_of_getElem? (i := 33) rfl))) (mvT hZ (hw _ (List.mem_of_getElem? (i := 34) rfl))) (mvT hZ (hw _ (List.mem_of_getElem? (i := 35) rfl))) (mvT hZ (hw _ (List.mem_of_getElem? (i := 36) rfl))) (by decide) (backOf (W := 0) (rm6 l Z a0 hw [] (own_cat own_up (u1 &&& (15 : Int32))) h29 n0 Z29 ) hZ (hw _ (List.mem_of_getElem? (i := 36) rfl)) (hw _ (List.mem_of_getElem? (i := 35) rfl)) (by decide) (by decide)) (g := (mkF m 29 #[.val (.int u0), .val (.int u1), .val (.int (u0.toUInt32.toUInt16.toUInt32.toInt32)), .val (.int (u1 &&& (15 : Int32))), .unset] [(.int (own_cat own_up (u1 &&& (15 : Int32))))])) rfl (by rw [hml]; rfl) (argsL := [(.int (own_cat own_up (u1 &&& (15 : Int32))))]) (rest := []) (lenOf own_pd5 rfl) rfl (by show 2 * 0 + _ ≤ _; exact Nat.le_of_eq rfl) (hb hby at_29) (fun _ _ => ⟨rfl, eq30, (by decide : 4 + 0 ≤ _), (by decide : 136 + 0 ≤ _)⟩)
  dsimp only [Pt.U, Pt.locs, Pt.cells, Pt.slots] at X31 l31 y31 z31 st31 hQ31
  subst l31 y31 z31
  obtain ⟨rfl, Nq31, eq31⟩ := hQ31
  have N31 := Fr.app N30 Nq31
  refine own_st st31 ?_
  show own_Go _ _ _ _ (T31.setTop (mkF m 32 #[.val (.int u0), .val (.int u1), .val (.int (u0.toUInt32.toUInt16.toUInt32.toInt32)), .val (.int (u1 &&& (15 : Int32))), .unset] [(.int (own_hx (own_cat own_up (u1 &&& (15 : Int32)))))]))
  refine own_st (fun _ k => XS.iloadN X31.here hx rfl (hb hby at_32) rfl k) ?_
  show own_Go _ _ _ _ (T31.setTop (mkF m 33 #[.val (.int u0), .val (.int u1), .val (.int (u0.toUInt32.toUInt16.toUInt32.toInt32)), .val (.int (u1 &&& (15 : Int32))), .unset] [(.int (u1 &&& (15 : Int32))), (.int (own_hx (own_cat own_up (u1 &&& (15 : Int32)))))]))
  refine own_st (fun _ k => XS.icmpYes X31.here hx rfl (pc0 := 33) (pc' := 38) rfl (hb hby at_33) rfl (teq (own_rt _ (own_d0 u1) (own_d1 u1)).2).1 (by decide) (by decide) k) ?_
  show own_Go _ _ _ _ (T31.setTop (mkF m 38 #[.val (.int u0), .val (.int u1), .val (.int (u0.toUInt32.toUInt16.toUInt32.toInt32)), .val (.int (u1 &&& (15 : Int32))), .unset] []))
  refine own_st (fun _ k => XS.iloadN X31.here hx rfl (hb hby at_38) rfl k) ?_
  show own_Go _ _ _ _ (T31.setTop (mkF m 39 #[.val (.int u0), .val (.int u1), .val (.int (u0.toUInt32.toUInt16.toUInt32.toInt32)), .val (.int (u1 &&& (15 : Int32))), .unset] [(.int (u0.toUInt32.toUInt16.toUInt32.toInt32))]))
  obtain ⟨_, _, ⟨T32, L32, k32, n32⟩, -, X32, ⟨Lc32, hQ32, l32, y32, z32⟩, st32⟩ := Jvm.LawKit.callS X31 hx (y := (⟨"com/example/web_dispatch/webdispatch/http/PercentEncoding", "hexValue", "(C)I"⟩ : MethodName)) hown (mvT hZ (hw _ (List.mem_of_getElem? (i := 33) rfl))) (mvT hZ (hw _ (List.mem_of_getElem? (i := 34) rfl))) (mvT hZ (hw _ (List.mem_of_getElem? (i := 35) rfl))) (mvT hZ (hw _ (List.mem_of_getElem? (i := 36) rfl))) (by decide) (backOf (W := 0) (rm6 l Z a0 hw [] (u0.toUInt32.toUInt16.toUInt32.toInt32) h29 n0 Z29 ) hZ (hw _ (List.mem_of_getElem? (i := 36) rfl)) (hw _ (List.mem_of_getElem? (i := 35) rfl)) (by decide) (by decide)) (g := (mkF m 39 #[.val (.int u0), .val (.int u1), .val (.int (u0.toUInt32.toUInt16.toUInt32.toInt32)), .val (.int (u1 &&& (15 : Int32))), .unset] [(.int (u0.toUInt32.toUInt16.toUInt32.toInt32))])) rfl (by rw [hml]; rfl) (argsL := [(.int (u0.toUInt32.toUInt16.toUInt32.toInt32))]) (rest := []) (lenOf own_pd5 rfl) rfl (by show 2 * 0 + _ ≤ _; exact Nat.le_of_eq rfl) (hb hby at_39) (fun _ _ => ⟨rfl, eq31, (by decide : 4 + 0 ≤ _), (by decide : 136 + 0 ≤ _)⟩)
  dsimp only [Pt.U, Pt.locs, Pt.cells, Pt.slots] at X32 l32 y32 z32 st32 hQ32
  subst l32 y32 z32
  obtain ⟨rfl, Nq32, eq32⟩ := hQ32
  have N32 := Fr.app N31 Nq32
  refine own_st st32 ?_
  show own_Go _ _ _ _ (T32.setTop (mkF m 42 #[.val (.int u0), .val (.int u1), .val (.int (u0.toUInt32.toUInt16.toUInt32.toInt32)), .val (.int (u1 &&& (15 : Int32))), .unset] [(.int (own_hx (u0.toUInt32.toUInt16.toUInt32.toInt32)))]))
  refine own_st (fun _ k => XS.istore X32.here hx rfl (hb hby at_42) rfl (l' := #[.val (.int u0), .val (.int u1), .val (.int (u0.toUInt32.toUInt16.toUInt32.toInt32)), .val (.int (u1 &&& (15 : Int32))), .val (.int (own_hx (u0.toUInt32.toUInt16.toUInt32.toInt32)))]) rfl k) ?_
  show own_Go _ _ _ _ (T32.setTop (mkF m 44 #[.val (.int u0), .val (.int u1), .val (.int (u0.toUInt32.toUInt16.toUInt32.toInt32)), .val (.int (u1 &&& (15 : Int32))), .val (.int (own_hx (u0.toUInt32.toUInt16.toUInt32.toInt32)))] []))
  refine own_st (fun _ k => XS.iload X32.here hx rfl (hb hby at_44) rfl k) ?_
  show own_Go _ _ _ _ (T32.setTop (mkF m 46 #[.val (.int u0), .val (.int u1), .val (.int (u0.toUInt32.toUInt16.toUInt32.toInt32)), .val (.int (u1 &&& (15 : Int32))), .val (.int (own_hx (u0.toUInt32.toUInt16.toUInt32.toInt32)))] [(.int (own_hx (u0.toUInt32.toUInt16.toUInt32.toInt32)))]))
  refine own_st (fun _ k => XS.iconst X32.here hx rfl (hb hby at_46) k) ?_
  show own_Go _ _ _ _ (T32.setTop (mkF m 47 #[.val (.int u0), .val (.int u1), .val (.int (u0.toUInt32.toUInt16.toUInt32.toInt32)), .val (.int (u1 &&& (15 : Int32))), .val (.int (own_hx (u0.toUInt32.toUInt16.toUInt32.toInt32)))] [(.int (-1 : Int32)), (.int (own_hx (u0.toUInt32.toUInt16.toUInt32.toInt32)))]))
  by_cases hc33 : (own_hx (u0.toUInt32.toUInt16.toUInt32.toInt32)) = (-1 : Int32)
  · skip
    refine own_st (fun _ k => XS.icmpNo X32.here hx rfl (hb hby at_47) rfl (teq hc33).2 k) ?_
    show own_Go _ _ _ _ (T32.setTop (mkF m 50 #[.val (.int u0), .val (.int u1), .val (.int (u0.toUInt32.toUInt16.toUInt32.toInt32)), .val (.int (u1 &&& (15 : Int32))), .val (.int (own_hx (u0.toUInt32.toUInt16.toUInt32.toInt32)))] []))
    refine own_st (fun _ k => XS.iloadN X32.here hx rfl (hb hby at_50) rfl k) ?_
    show own_Go _ _ _ _ (T32.setTop (mkF m 51 #[.val (.int u0), .val (.int u1), .val (.int (u0.toUInt32.toUInt16.toUInt32.toInt32)), .val (.int (u1 &&& (15 : Int32))), .val (.int (own_hx (u0.toUInt32.toUInt16.toUInt32.toInt32)))] [(.int (u0.toUInt32.toUInt16.toUInt32.toInt32))]))
    refine own_st (ldcAgain (s := (Z.setVm T26.vm)) X32 hx hZ hown (hw _ (List.mem_of_getElem? (i := 0) rfl)) Lj29_7 (g := (mkF m 51 #[.val (.int u0), .val (.int u1), .val (.int (u0.toUInt32.toUInt16.toUInt32.toInt32)), .val (.int (u1 &&& (15 : Int32))), .val (.int (own_hx (u0.toUInt32.toUInt16.toUInt32.toInt32)))] [(.int (u0.toUInt32.toUInt16.toUInt32.toInt32))])) rfl (hb hby at_51)) ?_
    show own_Go _ _ _ _ (T32.setTop (mkF m 53 #[.val (.int u0), .val (.int u1), .val (.int (u0.toUInt32.toUInt16.toUInt32.toInt32)), .val (.int (u1 &&& (15 : Int32))), .val (.int (own_hx (u0.toUInt32.toUInt16.toUInt32.toInt32)))] [(.ref a26), (.int (u0.toUInt32.toUInt16.toUInt32.toInt32))]))
    refine own_st (fun _ k => XS.iloadN X32.here hx rfl (hb hby at_53) rfl k) ?_
    show own_Go _ _ _ _ (T32.setTop (mkF m 54 #[.val (.int u0), .val (.int u1), .val (.int (u0.toUInt32.toUInt16.toUInt32.toInt32)), .val (.int (u1 &&& (15 : Int32))), .val (.int (own_hx (u0.toUInt32.toUInt16.toUInt32.toInt32)))] [(.int (u1 &&& (15 : Int32))), (.ref a26), (.int (u0.toUInt32.toUInt16.toUInt32.toInt32))]))
    obtain ⟨cq35, kq35, q35a, q35b, q35c⟩ := isOf hZ eq32 x29_E_a26
    obtain ⟨_, _, ⟨T35, L35, k35, n35⟩, -, X35, ⟨Lc35, hQ35, l35, y35, z35⟩, st35⟩ := X32.virtualBack hx (y := (⟨"java/lang/String", "charAt", "(I)C"⟩ : MethodName)) (z := (⟨"java/lang/String", "charAt", "(I)C"⟩ : MethodName)) hown (mvT hZ (hw _ (List.mem_of_getElem? (i := 8) rfl))) (mvT hZ (hw _ (List.mem_of_getElem? (i := 9) rfl))) (notFace_of_selects (args := #[]) (mvT hZ (hw _ (List.mem_of_getElem? (i := 11) rfl)))) (mvT hZ (hw _ (List.mem_of_getElem? (i := 11) rfl))) (mvT hZ (hw _ (List.mem_of_getElem? (i := 10) rfl))) (by decide) (backOf (W := 1) (rm1 l Z a0 hw [] a26 b26 k26 own_lo (u1 &&& (15 : Int32)) fv G1 h29 n0 Z29 x29_S_java_lang_String_COMPACT_STRINGS hG x29_S_jdk_internal_util_Preconditions_SIOOBE_FORMATTER rG x29_E_a26 x29_F_a26_coder x29_F_a26_value x29_V_b26 (own_d0 u1) (own_d1 u1)) hZ (hw _ (List.mem_of_getElem? (i := 12) rfl)) (hw _ (List.mem_of_getElem? (i := 1) rfl)) (by decide) (by decide)) q35a q35c (g := (mkF m 54 #[.val (.int u0), .val (.int u1), .val (.int (u0.toUInt32.toUInt16.toUInt32.toInt32)), .val (.int (u1 &&& (15 : Int32))), .val (.int (own_hx (u0.toUInt32.toUInt16.toUInt32.toInt32)))] [(.int (u1 &&& (15 : Int32))), (.ref a26), (.int (u0.toUInt32.toUInt16.toUInt32.toInt32))])) rfl (by rw [hml]; rfl) (Steps.refl _) (argsL := [(.int (u1 &&& (15 : Int32)))]) (rest := [(.int (u0.toUInt32.toUInt16.toUInt32.toInt32))]) (lenOf own_pd4 rfl) rfl (by show 2 * 0 + _ ≤ _; exact Nat.le_of_eq rfl) (hb hby at_54) (fun _ _ => ⟨rfl, eq32, (by decide : 4 + 0 ≤ _), (by decide : 136 + 0 ≤ _)⟩)
    dsimp only [Pt.U, Pt.locs, Pt.cells, Pt.slots] at X35 l35 y35 z35 st35 hQ35
    subst l35 y35 z35
    obtain ⟨rfl, Nq35, eq35⟩ := hQ35
    have N35 := Fr.app N32 Nq35
    refine own_tr st35 ?_
    show own_Go _ _ _ _ (T35.setTop (mkF m 57 #[.val (.int u0), .val (.int u1), .val (.int (u0.toUInt32.toUInt16.toUInt32.toInt32)), .val (.int (u1 &&& (15 : Int32))), .val (.int (own_hx (u0.toUInt32.toUInt16.toUInt32.toInt32)))] [(.int (own_cat own_lo (u1 &&& (15 : Int32)))), (.int (u0.toUInt32.toUInt16.toUInt32.toInt32))]))
    refine own_st (fun _ k => XS.icmpNo X35.here hx rfl (hb hby at_57) rfl (feq (own_nolo _ _ (own_d0 u1) (own_d1 u1) hc33).1).1 k) ?_
    show own_Go _ _ _ _ (T35.setTop (mkF m 60 #[.val (.int u0), .val (.int u1), .val (.int (u0.toUInt32.toUInt16.toUInt32.toInt32)), .val (.int (u1 &&& (15 : Int32))), .val (.int (own_hx (u0.toUInt32.toUInt16.toUInt32.toInt32)))] []))
    refine own_st (fun _ k => XS.iloadN X35.here hx rfl (hb hby at_60) rfl k) ?_
    show own_Go _ _ _ _ (T35.setTop (mkF m 61 #[.val (.int u0), .val (.int u1), .val (.int (u0.toUInt32.toUInt16.toUInt32.toInt32)), .val (.int (u1 &&& (15 : Int32))), .val (.int (own_hx (u0.toUInt32.toUInt16.toUInt32.toInt32)))] [(.int (u0.toUInt32.toUInt16.toUInt32.toInt32))]))
    refine own_st (ldcAgain (s := (Z.setVm T26.vm)) X35 hx hZ hown (hw _ (List.mem_of_getElem? (i := 37) rfl)) Li29 (g := (mkF m 61 #[.val (.int u0), .val (.int u1), .val (.int (u0.toUInt32.toUInt16.toUInt32.toInt32)), .val (.int (u1 &&& (15 : Int32))), .val (.int (own_hx (u0.toUInt32.toUInt16.toUInt32.toInt32)))] [(.int (u0.toUInt32.toUInt16.toUInt32.toInt32))])) rfl (hb hby at_61)) ?_
    show own_Go _ _ _ _ (T35.setTop (mkF m 63 #[.val (.int u0), .val (.int u1), .val (.int (u0.toUInt32.toUInt16.toUInt32.toInt32)), .val (.int (u1 &&& (15 : Int32))), .val (.int (own_hx (u0.toUInt32.toUInt16.toUInt32.toInt32)))] [(.ref a29), (.int (u0.toUInt32.toUInt16.toUInt32.toInt32))]))
    refine own_st (fun _ k => XS.iloadN X35.here hx rfl (hb hby at_63) rfl k) ?_
    show own_Go _ _ _ _ (T35.setTop (mkF m 64 #[.val (.int u0), .val (.int u1), .val (.int (u0.toUInt32.toUInt16.toUInt32.toInt32)), .val (.int (u1 &&& (15 : Int32))), .val (.int (own_hx (u0.toUInt32.toUInt16.toUInt32.toInt32)))] [(.int (u1 &&& (15 : Int32))), (.ref a29), (.int (u0.toUInt32.toUInt16.toUInt32.toInt32))]))
    obtain ⟨cq37, kq37, q37a, q37b, q37c⟩ := isOf hZ eq35 A29
    obtain ⟨_, _, ⟨T37, L37, k37, n37⟩, -, X37, ⟨Lc37, hQ37, l37, y37, z37⟩, st37⟩ := X35.virtualBack hx (y := (⟨"java/lang/String", "charAt", "(I)C"⟩ : MethodName)) (z := (⟨"java/lang/String", "charAt", "(I)C"⟩ : MethodName)) hown (mvT hZ (hw _ (List.mem_of_getElem? (i := 8) rfl))) (mvT hZ (hw _ (List.mem_of_getElem? (i := 9) rfl))) (notFace_of_selects (args := #[]) (mvT hZ (hw _ (List.mem_of_getElem? (i := 11) rfl)))) (mvT hZ (hw _ (List.mem_of_getElem? (i := 11) rfl))) (mvT hZ (hw _ (List.mem_of_getElem? (i := 10) rfl))) (by decide) (backOf (W := 1) (rm1 l Z a0 hw [] a29 b29 k29 own_up (u1 &&& (15 : Int32)) fv G1 h29 n0 Z29 x29_S_java_lang_String_COMPACT_STRINGS hG x29_S_jdk_internal_util_Preconditions_SIOOBE_FORMATTER rG A29 Fc29 Fv29 V29 (own_d0 u1) (own_d1 u1)) hZ (hw _ (List.mem_of_getElem? (i := 12) rfl)) (hw _ (List.mem_of_getElem? (i := 1) rfl)) (by decide) (by decide)) q37a q37c (g := (mkF m 64 #[.val (.int u0), .val (.int u1), .val (.int (u0.toUInt32.toUInt16.toUInt32.toInt32)), .val (.int (u1 &&& (15 : Int32))), .val (.int (own_hx (u0.toUInt32.toUInt16.toUInt32.toInt32)))] [(.int (u1 &&& (15 : Int32))), (.ref a29), (.int (u0.toUInt32.toUInt16.toUInt32.toInt32))])) rfl (by rw [hml]; rfl) (Steps.refl _) (argsL := [(.int (u1 &&& (15 : Int32)))]) (rest := [(.int (u0.toUInt32.toUInt16.toUInt32.toInt32))]) (lenOf own_pd4 rfl) rfl (by show 2 * 0 + _ ≤ _; exact Nat.le_of_eq rfl) (hb hby at_64) (fun _ _ => ⟨rfl, eq35, (by decide : 4 + 0 ≤ _), (by decide : 136 + 0 ≤ _)⟩)
    dsimp only [Pt.U, Pt.locs, Pt.cells, Pt.slots] at X37 l37 y37 z37 st37 hQ37
    subst l37 y37 z37
    obtain ⟨rfl, Nq37, eq37⟩ := hQ37
    have N37 := Fr.app N35 Nq37
    refine own_tr st37 ?_
    show own_Go _ _ _ _ (T37.setTop (mkF m 67 #[.val (.int u0), .val (.int u1), .val (.int (u0.toUInt32.toUInt16.toUInt32.toInt32)), .val (.int (u1 &&& (15 : Int32))), .val (.int (own_hx (u0.toUInt32.toUInt16.toUInt32.toInt32)))] [(.int (own_cat own_up (u1 &&& (15 : Int32)))), (.int (u0.toUInt32.toUInt16.toUInt32.toInt32))]))
    refine own_st (fun _ k => XS.icmpNo X37.here hx rfl (hb hby at_67) rfl (feq (own_nolo _ _ (own_d0 u1) (own_d1 u1) hc33).2).1 k) ?_
    show own_Go _ _ _ _ (T37.setTop (mkF m 70 #[.val (.int u0), .val (.int u1), .val (.int (u0.toUInt32.toUInt16.toUInt32.toInt32)), .val (.int (u1 &&& (15 : Int32))), .val (.int (own_hx (u0.toUInt32.toUInt16.toUInt32.toInt32)))] []))
    refine own_st (fun _ k => XS.iconst X37.here hx rfl (hb hby at_70) k) ?_
    show own_Go _ _ _ _ (T37.setTop (mkF m 71 #[.val (.int u0), .val (.int u1), .val (.int (u0.toUInt32.toUInt16.toUInt32.toInt32)), .val (.int (u1 &&& (15 : Int32))), .val (.int (own_hx (u0.toUInt32.toUInt16.toUInt32.toInt32)))] [(.int (1 : Int32))]))
    refine own_st (fun _ k => XS.goto X37.here hx rfl (pc0 := 71) (pc' := 75) rfl (hb hby at_71) (by decide) (by decide) k) ?_
    show own_Go _ _ _ _ (T37.setTop (mkF m 75 #[.val (.int u0), .val (.int u1), .val (.int (u0.toUInt32.toUInt16.toUInt32.toInt32)), .val (.int (u1 &&& (15 : Int32))), .val (.int (own_hx (u0.toUInt32.toUInt16.toUInt32.toInt32)))] [(.int (1 : Int32))]))
    obtain ⟨fs, hr, hrun, hended, hEnd⟩ := X37.leaveW (s := Z) (vm₁ := T29.vm) hS (by rw [eq37]; exact hk) (v := some (.int (1 : Int32))) (fun h => by rw [Bd.returns] at h; cases h)
    refine own_out (retN X37 hx (t := .boolean) Bd.returns (by simp) (hb hby at_75) hr) ⟨hrun, hended, _, _, rfl, ?_, hEnd.1, hEnd.2.1, hEnd.2.2.1, hEnd.2.2.2.mono (by decide) (by decide)⟩
    show Q0 Z u0 u1 h0 n0 _ T37.heap _
    exact ⟨rfl, N37⟩
  · skip
    refine own_st (fun _ k => XS.icmpYes X32.here hx rfl (pc0 := 47) (pc' := 76) rfl (hb hby at_47) rfl (feq hc33).2 (by decide) (by decide) k) ?_
    show own_Go _ _ _ _ (T32.setTop (mkF m 76 #[.val (.int u0), .val (.int u1), .val (.int (u0.toUInt32.toUInt16.toUInt32.toInt32)), .val (.int (u1 &&& (15 : Int32))), .val (.int (own_hx (u0.toUInt32.toUInt16.toUInt32.toInt32)))] []))
    have hs := own_sound _ hc33
    have hr0 := hs.1.1
    have hr1 := hs.1.2
    refine own_st (fun _ k => XS.iload X32.here hx rfl (hb hby at_76) rfl k) ?_
    show own_Go _ _ _ _ (T32.setTop (mkF m 78 #[.val (.int u0), .val (.int u1), .val (.int (u0.toUInt32.toUInt16.toUInt32.toInt32)), .val (.int (u1 &&& (15 : Int32))), .val (.int (own_hx (u0.toUInt32.toUInt16.toUInt32.toInt32)))] [(.int (own_hx (u0.toUInt32.toUInt16.toUInt32.toInt32)))]))
    refine own_st (fun _ k => XS.ifNo X32.here hx rfl (hb hby at_78) rfl ((if0 _ _).trans (flt (hr0)).1) k) ?_
    show own_Go _ _ _ _ (T32.setTop (mkF m 81 #[.val (.int u0), .val (.int u1), .val (.int (u0.toUInt32.toUInt16.toUInt32.toInt32)), .val (.int (u1 &&& (15 : Int32))), .val (.int (own_hx (u0.toUInt32.toUInt16.toUInt32.toInt32)))] []))
    refine own_st (fun _ k => XS.iload X32.here hx rfl (hb hby at_81) rfl k) ?_
    show own_Go _ _ _ _ (T32.setTop (mkF m 83 #[.val (.int u0), .val (.int u1), .val (.int (u0.toUInt32.toUInt16.toUInt32.toInt32)), .val (.int (u1 &&& (15 : Int32))), .val (.int (own_hx (u0.toUInt32.toUInt16.toUInt32.toInt32)))] [(.int (own_hx (u0.toUInt32.toUInt16.toUInt32.toInt32)))]))
    refine own_st (fun _ k => XS.bipush X32.here hx rfl (hb hby at_83) k) ?_
    show own_Go _ _ _ _ (T32.setTop (mkF m 85 #[.val (.int u0), .val (.int u1), .val (.int (u0.toUInt32.toUInt16.toUInt32.toInt32)), .val (.int (u1 &&& (15 : Int32))), .val (.int (own_hx (u0.toUInt32.toUInt16.toUInt32.toInt32)))] [(.int (15 : Int32)), (.int (own_hx (u0.toUInt32.toUInt16.toUInt32.toInt32)))]))
    refine own_st (fun _ k => XS.icmpYes X32.here hx rfl (pc0 := 85) (pc' := 90) rfl (hb hby at_85) rfl (flt (fun q => absurd hr1 (by simp only [Int32.lt_iff_toInt_lt, Int32.reduceToInt] at *; omega))).2.2.2 (by decide) (by decide) k) ?_
    show own_Go _ _ _ _ (T32.setTop (mkF m 90 #[.val (.int u0), .val (.int u1), .val (.int (u0.toUInt32.toUInt16.toUInt32.toInt32)), .val (.int (u1 &&& (15 : Int32))), .val (.int (own_hx (u0.toUInt32.toUInt16.toUInt32.toInt32)))] []))
    refine own_st (fun _ k => XS.iloadN X32.here hx rfl (hb hby at_90) rfl k) ?_
    show own_Go _ _ _ _ (T32.setTop (mkF m 91 #[.val (.int u0), .val (.int u1), .val (.int (u0.toUInt32.toUInt16.toUInt32.toInt32)), .val (.int (u1 &&& (15 : Int32))), .val (.int (own_hx (u0.toUInt32.toUInt16.toUInt32.toInt32)))] [(.int (u0.toUInt32.toUInt16.toUInt32.toInt32))]))
    refine own_st (ldcAgain (s := (Z.setVm T26.vm)) X32 hx hZ hown (hw _ (List.mem_of_getElem? (i := 0) rfl)) Lj29_7 (g := (mkF m 91 #[.val (.int u0), .val (.int u1), .val (.int (u0.toUInt32.toUInt16.toUInt32.toInt32)), .val (.int (u1 &&& (15 : Int32))), .val (.int (own_hx (u0.toUInt32.toUInt16.toUInt32.toInt32)))] [(.int (u0.toUInt32.toUInt16.toUInt32.toInt32))])) rfl (hb hby at_91)) ?_
    show own_Go _ _ _ _ (T32.setTop (mkF m 93 #[.val (.int u0), .val (.int u1), .val (.int (u0.toUInt32.toUInt16.toUInt32.toInt32)), .val (.int (u1 &&& (15 : Int32))), .val (.int (own_hx (u0.toUInt32.toUInt16.toUInt32.toInt32)))] [(.ref a26), (.int (u0.toUInt32.toUInt16.toUInt32.toInt32))]))
    refine own_st (fun _ k => XS.iload X32.here hx rfl (hb hby at_93) rfl k) ?_
    show own_Go _ _ _ _ (T32.setTop (mkF m 95 #[.val (.int u0), .val (.int u1), .val (.int (u0.toUInt32.toUInt16.toUInt32.toInt32)), .val (.int (u1 &&& (15 : Int32))), .val (.int (own_hx (u0.toUInt32.toUInt16.toUInt32.toInt32)))] [(.int (own_hx (u0.toUInt32.toUInt16.toUInt32.toInt32))), (.ref a26), (.int (u0.toUInt32.toUInt16.toUInt32.toInt32))]))
    obtain ⟨cq39, kq39, q39a, q39b, q39c⟩ := isOf hZ eq32 x29_E_a26
    obtain ⟨_, _, ⟨T39, L39, k39, n39⟩, -, X39, ⟨Lc39, hQ39, l39, y39, z39⟩, st39⟩ := X32.virtualBack hx (y := (⟨"java/lang/String", "charAt", "(I)C"⟩ : MethodName)) (z := (⟨"java/lang/String", "charAt", "(I)C"⟩ : MethodName)) hown (mvT hZ (hw _ (List.mem_of_getElem? (i := 8) rfl))) (mvT hZ (hw _ (List.mem_of_getElem? (i := 9) rfl))) (notFace_of_selects (args := #[]) (mvT hZ (hw _ (List.mem_of_getElem? (i := 11) rfl)))) (mvT hZ (hw _ (List.mem_of_getElem? (i := 11) rfl))) (mvT hZ (hw _ (List.mem_of_getElem? (i := 10) rfl))) (by decide) (backOf (W := 1) (rm1 l Z a0 hw [] a26 b26 k26 own_lo (own_hx (u0.toUInt32.toUInt16.toUInt32.toInt32)) fv G1 h29 n0 Z29 x29_S_java_lang_String_COMPACT_STRINGS hG x29_S_jdk_internal_util_Preconditions_SIOOBE_FORMATTER rG x29_E_a26 x29_F_a26_coder x29_F_a26_value x29_V_b26 hr0 hr1) hZ (hw _ (List.mem_of_getElem? (i := 12) rfl)) (hw _ (List.mem_of_getElem? (i := 1) rfl)) (by decide) (by decide)) q39a q39c (g := (mkF m 95 #[.val (.int u0), .val (.int u1), .val (.int (u0.toUInt32.toUInt16.toUInt32.toInt32)), .val (.int (u1 &&& (15 : Int32))), .val (.int (own_hx (u0.toUInt32.toUInt16.toUInt32.toInt32)))] [(.int (own_hx (u0.toUInt32.toUInt16.toUInt32.toInt32))), (.ref a26), (.int (u0.toUInt32.toUInt16.toUInt32.toInt32))])) rfl (by rw [hml]; rfl) (Steps.refl _) (argsL := [(.int (own_hx (u0.toUInt32.toUInt16.toUInt32.toInt32)))]) (rest := [(.int (u0.toUInt32.toUInt16.toUInt32.toInt32))]) (lenOf own_pd4 rfl) rfl (by show 2 * 0 + _ ≤ _; exact Nat.le_of_eq rfl) (hb hby at_95) (fun _ _ => ⟨rfl, eq32, (by decide : 4 + 0 ≤ _), (by decide : 136 + 0 ≤ _)⟩)
    dsimp only [Pt.U, Pt.locs, Pt.cells, Pt.slots] at X39 l39 y39 z39 st39 hQ39
    subst l39 y39 z39
    obtain ⟨rfl, Nq39, eq39⟩ := hQ39
    have N39 := Fr.app N32 Nq39
    refine own_tr st39 ?_
    show own_Go _ _ _ _ (T39.setTop (mkF m 98 #[.val (.int u0), .val (.int u1), .val (.int (u0.toUInt32.toUInt16.toUInt32.toInt32)), .val (.int (u1 &&& (15 : Int32))), .val (.int (own_hx (u0.toUInt32.toUInt16.toUInt32.toInt32)))] [(.int (own_cat own_lo (own_hx (u0.toUInt32.toUInt16.toUInt32.toInt32)))), (.int (u0.toUInt32.toUInt16.toUInt32.toInt32))]))
    by_cases hc40 : (u0.toUInt32.toUInt16.toUInt32.toInt32) = (own_cat own_lo (own_hx (u0.toUInt32.toUInt16.toUInt32.toInt32)))
    · skip
      refine own_st (fun _ k => XS.icmpYes X39.here hx rfl (pc0 := 98) (pc' := 112) rfl (hb hby at_98) rfl (teq hc40).1 (by decide) (by decide) k) ?_
      show own_Go _ _ _ _ (T39.setTop (mkF m 112 #[.val (.int u0), .val (.int u1), .val (.int (u0.toUInt32.toUInt16.toUInt32.toInt32)), .val (.int (u1 &&& (15 : Int32))), .val (.int (own_hx (u0.toUInt32.toUInt16.toUInt32.toInt32)))] []))
      refine own_st (fun _ k => XS.iconst X39.here hx rfl (hb hby at_112) k) ?_
      show own_Go _ _ _ _ (T39.setTop (mkF m 113 #[.val (.int u0), .val (.int u1), .val (.int (u0.toUInt32.toUInt16.toUInt32.toInt32)), .val (.int (u1 &&& (15 : Int32))), .val (.int (own_hx (u0.toUInt32.toUInt16.toUInt32.toInt32)))] [(.int (1 : Int32))]))
      refine own_st (fun _ k => XS.goto X39.here hx rfl (pc0 := 113) (pc' := 117) rfl (hb hby at_113) (by decide) (by decide) k) ?_
      show own_Go _ _ _ _ (T39.setTop (mkF m 117 #[.val (.int u0), .val (.int u1), .val (.int (u0.toUInt32.toUInt16.toUInt32.toInt32)), .val (.int (u1 &&& (15 : Int32))), .val (.int (own_hx (u0.toUInt32.toUInt16.toUInt32.toInt32)))] [(.int (1 : Int32))]))
      obtain ⟨fs, hr, hrun, hended, hEnd⟩ := X39.leaveW (s := Z) (vm₁ := T29.vm) hS (by rw [eq39]; exact hk) (v := some (.int (1 : Int32))) (fun h => by rw [Bd.returns] at h; cases h)
      refine own_out (retN X39 hx (t := .boolean) Bd.returns (by simp) (hb hby at_117) hr) ⟨hrun, hended, _, _, rfl, ?_, hEnd.1, hEnd.2.1, hEnd.2.2.1, hEnd.2.2.2.mono (by decide) (by decide)⟩
      show Q0 Z u0 u1 h0 n0 _ T39.heap _
      exact ⟨rfl, N39⟩
    · skip
      refine own_st (fun _ k => XS.icmpNo X39.here hx rfl (hb hby at_98) rfl (feq hc40).1 k) ?_
      show own_Go _ _ _ _ (T39.setTop (mkF m 101 #[.val (.int u0), .val (.int u1), .val (.int (u0.toUInt32.toUInt16.toUInt32.toInt32)), .val (.int (u1 &&& (15 : Int32))), .val (.int (own_hx (u0.toUInt32.toUInt16.toUInt32.toInt32)))] []))
      refine own_st (fun _ k => XS.iloadN X39.here hx rfl (hb hby at_101) rfl k) ?_
      show own_Go _ _ _ _ (T39.setTop (mkF m 102 #[.val (.int u0), .val (.int u1), .val (.int (u0.toUInt32.toUInt16.toUInt32.toInt32)), .val (.int (u1 &&& (15 : Int32))), .val (.int (own_hx (u0.toUInt32.toUInt16.toUInt32.toInt32)))] [(.int (u0.toUInt32.toUInt16.toUInt32.toInt32))]))
      refine own_st (ldcAgain (s := (Z.setVm T26.vm)) X39 hx hZ hown (hw _ (List.mem_of_getElem? (i := 37) rfl)) Li29 (g := (mkF m 102 #[.val (.int u0), .val (.int u1), .val (.int (u0.toUInt32.toUInt16.toUInt32.toInt32)), .val (.int (u1 &&& (15 : Int32))), .val (.int (own_hx (u0.toUInt32.toUInt16.toUInt32.toInt32)))] [(.int (u0.toUInt32.toUInt16.toUInt32.toInt32))])) rfl (hb hby at_102)) ?_
      show own_Go _ _ _ _ (T39.setTop (mkF m 104 #[.val (.int u0), .val (.int u1), .val (.int (u0.toUInt32.toUInt16.toUInt32.toInt32)), .val (.int (u1 &&& (15 : Int32))), .val (.int (own_hx (u0.toUInt32.toUInt16.toUInt32.toInt32)))] [(.ref a29), (.int (u0.toUInt32.toUInt16.toUInt32.toInt32))]))
      refine own_st (fun _ k => XS.iload X39.here hx rfl (hb hby at_104) rfl k) ?_
      show own_Go _ _ _ _ (T39.setTop (mkF m 106 #[.val (.int u0), .val (.int u1), .val (.int (u0.toUInt32.toUInt16.toUInt32.toInt32)), .val (.int (u1 &&& (15 : Int32))), .val (.int (own_hx (u0.toUInt32.toUInt16.toUInt32.toInt32)))] [(.int (own_hx (u0.toUInt32.toUInt16.toUInt32.toInt32))), (.ref a29), (.int (u0.toUInt32.toUInt16.toUInt32.toInt32))]))
      obtain ⟨cq42, kq42, q42a, q42b, q42c⟩ := isOf hZ eq39 A29
      obtain ⟨_, _, ⟨T42, L42, k42, n42⟩, -, X42, ⟨Lc42, hQ42, l42, y42, z42⟩, st42⟩ := X39.virtualBack hx (y := (⟨"java/lang/String", "charAt", "(I)C"⟩ : MethodName)) (z := (⟨"java/lang/String", "charAt", "(I)C"⟩ : MethodName)) hown (mvT hZ (hw _ (List.mem_of_getElem? (i := 8) rfl))) (mvT hZ (hw _ (List.mem_of_getElem? (i := 9) rfl))) (notFace_of_selects (args := #[]) (mvT hZ (hw _ (List.mem_of_getElem? (i := 11) rfl)))) (mvT hZ (hw _ (List.mem_of_getElem? (i := 11) rfl))) (mvT hZ (hw _ (List.mem_of_getElem? (i := 10) rfl))) (by decide) (backOf (W := 1) (rm1 l Z a0 hw [] a29 b29 k29 own_up (own_hx (u0.toUInt32.toUInt16.toUInt32.toInt32)) fv G1 h29 n0 Z29 x29_S_java_lang_String_COMPACT_STRINGS hG x29_S_jdk_internal_util_Preconditions_SIOOBE_FORMATTER rG A29 Fc29 Fv29 V29 hr0 hr1) hZ (hw _ (List.mem_of_getElem? (i := 12) rfl)) (hw _ (List.mem_of_getElem? (i := 1) rfl)) (by decide) (by decide)) q42a q42c (g := (mkF m 106 #[.val (.int u0), .val (.int u1), .val (.int (u0.toUInt32.toUInt16.toUInt32.toInt32)), .val (.int (u1 &&& (15 : Int32))), .val (.int (own_hx (u0.toUInt32.toUInt16.toUInt32.toInt32)))] [(.int (own_hx (u0.toUInt32.toUInt16.toUInt32.toInt32))), (.ref a29), (.int (u0.toUInt32.toUInt16.toUInt32.toInt32))])) rfl (by rw [hml]; rfl) (Steps.refl _) (argsL := [(.int (own_hx (u0.toUInt32.toUInt16.toUInt32.toInt32)))]) (rest := [(.int (u0.toUInt32.toUInt16.toUInt32.toInt32))]) (lenOf own_pd4 rfl) rfl (by show 2 * 0 + _ ≤ _; exact Nat.le_of_eq rfl) (hb hby at_106) (fun _ _ => ⟨rfl, eq39, (by decide : 4 + 0 ≤ _), (by decide : 136 + 0 ≤ _)⟩)
      dsimp only [Pt.U, Pt.locs, Pt.cells, Pt.slots] at X42 l42 y42 z42 st42 hQ42
      subst l42 y42 z42
      obtain ⟨rfl, Nq42, eq42⟩ := hQ42
      have N42 := Fr.app N39 Nq42
      refine own_tr st42 ?_
      show own_Go _ _ _ _ (T42.setTop (mkF m 109 #[.val (.int u0), .val (.int u1), .val (.int (u0.toUInt32.toUInt16.toUInt32.toInt32)), .val (.int (u1 &&& (15 : Int32))), .val (.int (own_hx (u0.toUInt32.toUInt16.toUInt32.toInt32)))] [(.int (own_cat own_up (own_hx (u0.toUInt32.toUInt16.toUInt32.toInt32)))), (.int (u0.toUInt32.toUInt16.toUInt32.toInt32))]))
      refine own_st (fun _ k => XS.icmpNo X42.here hx rfl (hb hby at_109) rfl (teq (hs.2.resolve_left hc40)).2 k) ?_
      show own_Go _ _ _ _ (T42.setTop (mkF m 112 #[.val (.int u0), .val (.int u1), .val (.int (u0.toUInt32.toUInt16.toUInt32.toInt32)), .val (.int (u1 &&& (15 : Int32))), .val (.int (own_hx (u0.toUInt32.toUInt16.toUInt32.toInt32)))] []))
      refine own_st (fun _ k => XS.iconst X42.here hx rfl (hb hby at_112) k) ?_
      show own_Go _ _ _ _ (T42.setTop (mkF m 113 #[.val (.int u0), .val (.int u1), .val (.int (u0.toUInt32.toUInt16.toUInt32.toInt32)), .val (.int (u1 &&& (15 : Int32))), .val (.int (own_hx (u0.toUInt32.toUInt16.toUInt32.toInt32)))] [(.int (1 : Int32))]))
      refine own_st (fun _ k => XS.goto X42.here hx rfl (pc0 := 113) (pc' := 117) rfl (hb hby at_113) (by decide) (by decide) k) ?_
      show own_Go _ _ _ _ (T42.setTop (mkF m 117 #[.val (.int u0), .val (.int u1), .val (.int (u0.toUInt32.toUInt16.toUInt32.toInt32)), .val (.int (u1 &&& (15 : Int32))), .val (.int (own_hx (u0.toUInt32.toUInt16.toUInt32.toInt32)))] [(.int (1 : Int32))]))
      obtain ⟨fs, hr, hrun, hended, hEnd⟩ := X42.leaveW (s := Z) (vm₁ := T29.vm) hS (by rw [eq42]; exact hk) (v := some (.int (1 : Int32))) (fun h => by rw [Bd.returns] at h; cases h)
      refine own_out (retN X42 hx (t := .boolean) Bd.returns (by simp) (hb hby at_117) hr) ⟨hrun, hended, _, _, rfl, ?_, hEnd.1, hEnd.2.1, hEnd.2.2.1, hEnd.2.2.2.mono (by decide) (by decide)⟩
      show Q0 Z u0 u1 h0 n0 _ T42.heap _
      exact ⟨rfl, N42⟩
set_option maxRecDepth 65536 in
set_option maxHeartbeats 40000000 in
theorem comes_1 {Post : Tables → Env → Array Value → State → Outcome → State → Prop} (hpost : ∀ tb e args s v u, (limb_1_1.after args s (.returned v) u = true ∧ limb_1_2.after args s (.returned v) u = true ∧ True) → FramedW s (.returned v) u (Jvm.fieldLocs frame_1_writes args s ++ Jvm.arrayLocs frame_1_arrays args s ++ Jvm.staticLocs frame_1_statics s) 8 2112 → Post tb e args s (.returned v) u) :
    ArmFor flags0 classFile x code maxLocals ret World_1 tables_1 room_1 Calls_1 rest_1 Pre_1 Post := by
  intro l hfl _ _ p e ha hc hk s m args below hf hA hF happ hP
  obtain ⟨hcalls, hrest, hpre⟩ := hP
  obtain ⟨-, -, -, hnamed, -, -, -, hat⟩ := (Spec.applies_iff hf).mp happ
  obtain ⟨hg, hn⟩ := and_e (Cond.before_iff.mp (show (Jvm.Cond.and given_1 narrow_1).before args s = true from hpre))
  obtain ⟨h1, h2⟩ := and_e hg
  obtain ⟨ha0, h2⟩ := and_e h2
  have ha1 := h2
  obtain ⟨w0, w1, rfl⟩ : ∃ w0 w1 : Value, args = #[w0, w1] := by
    have hs : args.size = 2 := by simpa [Cond.value, given_1] using h1
    obtain ⟨L⟩ := args
    match L, hs with
    | [w0, w1], _ => exact ⟨w0, w1, rfl⟩
  have hw := fun d (hd : d ∈ tables_1) => atoms_spec (ws := Jvm.Cond.code x code maxLocals ret :: tables_1) hat d (List.mem_cons_of_mem _ hd)
  obtain ⟨hsets, hown0⟩ := atoms_of _ (rest_1_c_eq ▸ (show rest_1_c.before _ s = true from hrest))
  obtain ⟨i0, ei0⟩ := is_v ha0
  obtain rfl : w0 = (.int i0) := Option.some.inj ei0
  obtain ⟨i1, ei1⟩ := is_v ha1
  obtain rfl : w1 = (.int i1) := Option.some.inj ei1
  have n5 := not_v (Cond.before_iff.mp (hsets _ (List.mem_of_getElem? (i := 2) rfl)))
  obtain ⟨G1, eG⟩ := is_v (Cond.before_iff.mp (hsets _ (List.mem_of_getElem? (i := 1) rfl)))
  have S1 : Sta s s.heap "java/lang/String" "COMPACT_STRINGS" "Z" (.int G1) := Sta.start eG (Or.inl (hsets _ (List.mem_of_getElem? (i := 0) rfl)))
  obtain ⟨fv, ef, rG⟩ := isR_v (Cond.before_iff.mp (hsets _ (List.mem_of_getElem? (i := 8) rfl)))
  have S3 : Sta s s.heap "jdk/internal/util/Preconditions" "SIOOBE_FORMATTER" "Ljava/util/function/BiFunction;" fv := Sta.start ef (Or.inl (hsets _ (List.mem_of_getElem? (i := 7) rfl)))
  have hG : ¬ (G1 = (0 : Int32)) := gotF (Cond.eq_ints eG (Term.int_eval (0))) n5
  have hcw := hsets _ (List.mem_of_getElem? (i := 2) rfl)
  have hcl := hcalls.1
  have hc7 : Jvm.Lit.constHeld s "com/example/web_dispatch/webdispatch/http/PercentEncodingHexValuePinLaw" 7 := hcl ("com/example/web_dispatch/webdispatch/http/PercentEncodingHexValuePinLaw", 7) (List.mem_of_getElem? (i := 0) rfl)
  have hc21 : Jvm.Lit.constHeld s "com/example/web_dispatch/webdispatch/http/PercentEncodingHexValuePinLaw" 21 := hcl ("com/example/web_dispatch/webdispatch/http/PercentEncodingHexValuePinLaw", 21) (List.mem_of_getElem? (i := 1) rfl)
  obtain ⟨n, o, h1, h2, h3, _, L, rfl, ⟨rfl, N⟩, hq⟩ := rm0 l s _ hw tables_1 i0 i1 fv G1 s.heap s.heap.size rfl rfl S1 hG S3 rG hcw hc7 hc21 p e ha hc hk s m _ below hf ((Spec.applies_iff_loose hf).mp happ).1 ⟨rfl, rfl⟩ trivial
  refine ⟨n, _, h1, h2, h3, hpost _ _ _ _ _ _ ⟨Cond.after_iff.mpr rfl, Cond.after_iff.mpr (eq_i res_at (Term.int_eval (1)) rfl), trivial⟩ ⟨hq.1, hq.2.1, hq.2.2.1, (hq.2.2.2.sift fun y hy => Or.inr (N y hy)).mono (by decide) (by decide)⟩⟩
theorem main_1_1 : Claimed_1_1 := comes_1 fun _ _ _ _ _ _ h hF => ⟨h.1, hF⟩
theorem main_1_2 : Claimed_1_2 := comes_1 fun _ _ _ _ _ _ h hF => ⟨h.2.1, hF⟩
end Jvm.Pilot.@@N@@
namespace Jvm.Pilot.@@N@@
open Jvm Jvm.ClassFile Sem Op Lib Jvm.Free Jvm.Stand Jvm.Pilot.@@N@@.Jvm.D
/-! MADE BY PROGRAM (witnessworld.py) out of the Statement's table words and the real class files: 17 classes; the members and pool entries that the words name. The judged class is class 1, her method 1. -/
namespace start1
open Jvm.ClassFile
def u (s : String) : CpInfo := .utf8 (stringToUtf16 s)
/-- a pool by its gaps: so many unusable entries, then the entry; so many at the end -/
def gap : Nat → List CpInfo → List CpInfo
  | 0, r => r
  | n + 1, r => .unusable :: gap n r
def poolList (es : List (Nat × CpInfo)) (last : Nat) : List CpInfo := es.foldr (fun e r => gap e.1 (e.2 :: r)) (gap last [])
def pool (es : List (Nat × CpInfo)) (last : Nat) : Array CpInfo := ⟨poolList es last⟩
def fileOf (pool : Array CpInfo) (this : Nat) (attrs : Array Attribute := #[]) (ms : Array MethodInfo := #[]) (fl : Nat := 33) (sup : Nat := 0) (ifs : Array Nat := #[]) (fds : Array FieldInfo := #[]) : ClassFile where
  minorVersion := 0
  majorVersion := 65
  constantPool := pool
  accessFlags := fl
  thisClass := this
  superClass := sup
  interfaces := ifs
  fields := fds
  methods := ms
  attributes := attrs
def plain (name : String) (sup : Option ClassId) : Class where
  name := name
  kind := .ordinary
  loader := none
  accessFlags := 33
  super := sup
  interfaces := #[]
  cf := none
  fields := #[]
  methods := #[]
  instanceTypes := #[]
  staticTypes := #[]
  resolved := #[]
  callSites := []
  init := .initialized
  statics := none
  mirror := none

def pool0 : Array CpInfo := pool [(5, u "<init>"), (0, u "()V"), (1, .class_ 10), (1, u "java/lang/Object")] 113

def k0m0 : Method := { name := "<init>", desc := "()V", sig := { parameters := [], returnType := none }, accessFlags := 1, code := none }
/-- java/lang/Object -/
def k0 : Class := { plain "java/lang/Object" none with
  accessFlags := 33
  interfaces := #[]
  cf := some (fileOf pool0 8 #[] #[{ accessFlags := 1, nameIndex := 5, descriptorIndex := 6, attributes := #[] }] 33 0 #[] #[])
  fields := #[]
  methods := #[k0m0]
  instanceTypes := #[]
  staticTypes := #[]
  resolved := Array.replicate 124 none
  statics := none }

def pool1 : Array CpInfo := pool [(2, .class_ 4), (1, u "java/lang/Object"), (0, u "<init>"), (0, u "()V"), (0, .string 8), (0, u "0123456789abcdef"), (0, .methodref 10 11), (0, .class_ 12), (0, .nameAndType 13 14), (0, u "java/lang/String"), (0, u "charAt"), (0, u "(I)C"), (0, .methodref 16 17), (0, .class_ 18), (0, .nameAndType 19 20), (0, u "com/example/web_dispatch/webdispatch/http/PercentEncoding"), (0, u "hexValue"), (0, u "(C)I"), (0, .string 22), (0, u "0123456789ABCDEF"), (0, .class_ 24), (0, u "com/example/web_dispatch/webdispatch/http/PercentEncodingHexValuePinLaw"), (2, u "law"), (0, u "(II)Z")] 3

def k1m0 : Method := { name := "<init>", desc := "()V", sig := { parameters := [], returnType := none }, accessFlags := 2, code := none }
def k1c1 : Code := { maxStack := 3, maxLocals := 5, code := code, exceptionTable := #[], attributes := #[] }
def k1m1 : Method := { name := "law", desc := "(II)Z", sig := { parameters := [.int, .int], returnType := some .boolean }, accessFlags := 9, code := some k1c1 }
/-- com/example/web_dispatch/webdispatch/http/PercentEncodingHexValuePinLaw -/
def k1 : Class := { plain "com/example/web_dispatch/webdispatch/http/PercentEncodingHexValuePinLaw" (some 0) with
  accessFlags := 49
  interfaces := #[]
  cf := some (fileOf pool1 23 #[] #[{ accessFlags := 2, nameIndex := 5, descriptorIndex := 6, attributes := #[] }, { accessFlags := 9, nameIndex := 27, descriptorIndex := 28, attributes := #[] }] 49 2 #[] #[])
  fields := #[]
  methods := #[k1m0, k1m1]
  instanceTypes := #[]
  staticTypes := #[]
  resolved := Array.replicate 32 none
  statics := none }

def pool2 : Array CpInfo := pool [(1, .class_ 2), (0, u "java/io/Serializable"), (0, .class_ 4), (0, u "java/lang/Object")] 2

/-- java/io/Serializable -/
def k2 : Class := { plain "java/io/Serializable" (some 0) with
  accessFlags := 1537
  interfaces := #[]
  cf := some (fileOf pool2 1 #[] #[] 1537 3 #[] #[])
  fields := #[]
  methods := #[]
  instanceTypes := #[]
  staticTypes := #[]
  resolved := Array.replicate 7 none
  statics := none }

def pool3 : Array CpInfo := pool [(1, .class_ 2), (0, u "java/lang/Comparable"), (0, .class_ 4), (0, u "java/lang/Object")] 7

/-- java/lang/Comparable -/
def k3 : Class := { plain "java/lang/Comparable" (some 0) with
  accessFlags := 1537
  interfaces := #[]
  cf := some (fileOf pool3 1 #[] #[] 1537 3 #[] #[])
  fields := #[]
  methods := #[]
  instanceTypes := #[]
  staticTypes := #[]
  resolved := Array.replicate 12 none
  statics := none }

def pool4 : Array CpInfo := pool [(2, .class_ 4), (1, u "java/lang/CharSequence"), (42, .class_ 48), (0, u "java/lang/CharSequence$1CodePointIterator"), (10, .class_ 60), (0, u "java/lang/CharSequence$1CharIterator"), (5, .class_ 67), (0, u "java/lang/Object")] 63

/-- java/lang/CharSequence -/
def k4 : Class := { plain "java/lang/CharSequence" (some 0) with
  accessFlags := 1537
  interfaces := #[]
  cf := some (fileOf pool4 2 #[.nestMembers #[47, 59]] #[] 1537 66 #[] #[])
  fields := #[]
  methods := #[]
  instanceTypes := #[]
  staticTypes := #[]
  resolved := Array.replicate 131 none
  statics := none }

def pool5 : Array CpInfo := pool [(1, .class_ 2), (0, u "java/lang/constant/Constable"), (0, .class_ 4), (0, u "java/lang/Object")] 6

/-- java/lang/constant/Constable -/
def k5 : Class := { plain "java/lang/constant/Constable" (some 0) with
  accessFlags := 1537
  interfaces := #[]
  cf := some (fileOf pool5 1 #[] #[] 1537 3 #[] #[])
  fields := #[]
  methods := #[]
  instanceTypes := #[]
  staticTypes := #[]
  resolved := Array.replicate 11 none
  statics := none }

def pool6 : Array CpInfo := pool [(1, .class_ 2), (0, u "java/lang/constant/ConstantDesc"), (0, .class_ 4), (0, u "java/lang/Object")] 32

/-- java/lang/constant/ConstantDesc -/
def k6 : Class := { plain "java/lang/constant/ConstantDesc" (some 0) with
  accessFlags := 1537
  interfaces := #[]
  cf := some (fileOf pool6 1 #[] #[] 1537 3 #[] #[])
  fields := #[]
  methods := #[]
  instanceTypes := #[]
  staticTypes := #[]
  resolved := Array.replicate 37 none
  statics := none }

def pool7 : Array CpInfo := pool [(2, .class_ 4), (1, u "java/lang/Object"), (0, u "<init>"), (0, u "()V"), (2, .fieldref 10 11), (0, .class_ 12), (0, .nameAndType 13 14), (0, u "java/lang/String"), (0, u "value"), (0, u "[B"), (0, .fieldref 10 16), (0, .nameAndType 17 18), (0, u "coder"), (0, u "B"), (2, u "hash"), (0, u "I"), (2, u "hashIsZero"), (0, u "Z"), (11, .fieldref 10 39), (0, .nameAndType 40 26), (0, u "COMPACT_STRINGS"), (66, .class_ 109), (1, u "java/lang/StringLatin1"), (32, u "()Z"), (220, u "([BI)C"), (27, u "(II)V"), (35, u "(I)C"), (64, .methodref 10 493), (0, .nameAndType 494 142), (0, u "isLatin1"), (0, .methodref 107 496), (0, .nameAndType 497 363), (0, u "charAt"), (3, u "checkIndex"), (73, .class_ 576), (0, u "java/lang/CharSequence"), (22, u "CASE_INSENSITIVE_ORDER"), (0, u "Ljava/util/Comparator;"), (452, .fieldref 1054 1055), (0, .class_ 1056), (0, .nameAndType 1057 1058), (0, u "jdk/internal/util/Preconditions"), (0, u "SIOOBE_FORMATTER"), (0, u "Ljava/util/function/BiFunction;"), (0, .methodref 1054 1060), (0, .nameAndType 501 1061), (0, u "(IILjava/util/function/BiFunction;)I"), (39, u "serialPersistentFields"), (0, u "[Ljava/io/ObjectStreamField;"), (0, .class_ 1104), (0, u "java/lang/String$CaseInsensitiveComparator"), (1, .class_ 1107), (0, u "java/io/Serializable"), (0, .class_ 1109), (0, u "java/lang/Comparable"), (0, .class_ 1111), (0, u "java/lang/constant/Constable"), (0, .class_ 1113), (0, u "java/lang/constant/ConstantDesc"), (2, u "serialVersionUID"), (0, u "J"), (3, u "REPL"), (0, u "C"), (2, u "LATIN1"), (1, u "UTF16")] 323

def k7m0 : Method := { name := "<init>", desc := "()V", sig := { parameters := [], returnType := none }, accessFlags := 1, code := none }
def k7c1 : Code := { maxStack := 2, maxLocals := 2, code := jdk_42_method_56_code, exceptionTable := #[], attributes := #[] }
def k7m1 : Method := { name := "charAt", desc := "(I)C", sig := { parameters := [.int], returnType := some .char }, accessFlags := 1, code := some k7c1 }
def k7c2 : Code := { maxStack := 1, maxLocals := 1, code := jdk_42_method_154_code, exceptionTable := #[], attributes := #[] }
def k7m2 : Method := { name := "isLatin1", desc := "()Z", sig := { parameters := [], returnType := some .boolean }, accessFlags := 0, code := some k7c2 }
def k7c3 : Code := { maxStack := 3, maxLocals := 2, code := jdk_42_method_155_code, exceptionTable := #[], attributes := #[] }
def k7m3 : Method := { name := "checkIndex", desc := "(II)V", sig := { parameters := [.int, .int], returnType := none }, accessFlags := 8, code := some k7c3 }
/-- java/lang/String -/
def k7 : Class := { plain "java/lang/String" (some 0) with
  accessFlags := 49
  interfaces := #[2, 3, 4, 5, 6]
  cf := some (fileOf pool7 10 #[.nestMembers #[1103]] #[{ accessFlags := 1, nameIndex := 5, descriptorIndex := 6, attributes := #[] }, { accessFlags := 1, nameIndex := 497, descriptorIndex := 427, attributes := #[] }, { accessFlags := 0, nameIndex := 494, descriptorIndex := 142, attributes := #[] }, { accessFlags := 8, nameIndex := 501, descriptorIndex := 391, attributes := #[] }] 49 2 #[1106, 1108, 575, 1110, 1112] #[{ accessFlags := 18, nameIndex := 13, descriptorIndex := 14, attributes := #[] }, { accessFlags := 18, nameIndex := 17, descriptorIndex := 18, attributes := #[] }, { accessFlags := 2, nameIndex := 21, descriptorIndex := 22, attributes := #[] }, { accessFlags := 2, nameIndex := 25, descriptorIndex := 26, attributes := #[] }, { accessFlags := 26, nameIndex := 1116, descriptorIndex := 1117, attributes := #[] }, { accessFlags := 24, nameIndex := 40, descriptorIndex := 26, attributes := #[] }, { accessFlags := 26, nameIndex := 1101, descriptorIndex := 1102, attributes := #[] }, { accessFlags := 26, nameIndex := 1121, descriptorIndex := 1122, attributes := #[] }, { accessFlags := 25, nameIndex := 599, descriptorIndex := 600, attributes := #[] }, { accessFlags := 24, nameIndex := 1125, descriptorIndex := 18, attributes := #[] }, { accessFlags := 24, nameIndex := 1127, descriptorIndex := 18, attributes := #[] }])
  fields := #[{ name := "value", type := (.array .byte), accessFlags := 18, slot := 0, constantValue := 0 }, { name := "coder", type := .byte, accessFlags := 18, slot := 1, constantValue := 0 }, { name := "hash", type := .int, accessFlags := 2, slot := 2, constantValue := 0 }, { name := "hashIsZero", type := .boolean, accessFlags := 2, slot := 3, constantValue := 0 }, { name := "serialVersionUID", type := .long, accessFlags := 26, slot := 0, constantValue := 0 }, { name := "COMPACT_STRINGS", type := .boolean, accessFlags := 24, slot := 1, constantValue := 0 }, { name := "serialPersistentFields", type := (.array (.object "java/io/ObjectStreamField")), accessFlags := 26, slot := 2, constantValue := 0 }, { name := "REPL", type := .char, accessFlags := 26, slot := 3, constantValue := 0 }, { name := "CASE_INSENSITIVE_ORDER", type := (.object "java/util/Comparator"), accessFlags := 25, slot := 4, constantValue := 0 }, { name := "LATIN1", type := .byte, accessFlags := 24, slot := 5, constantValue := 0 }, { name := "UTF16", type := .byte, accessFlags := 24, slot := 6, constantValue := 0 }]
  methods := #[k7m0, k7m1, k7m2, k7m3]
  instanceTypes := #[(.array .byte), .byte, .int, .boolean]
  staticTypes := #[.long, .boolean, (.array (.object "java/io/ObjectStreamField")), .char, (.object "java/util/Comparator"), .byte, .byte]
  resolved := Array.replicate 1451 none
  statics := some 0 }

def pool8 : Array CpInfo := pool [(1, .class_ 2), (0, u "java/lang/String"), (1, .class_ 6), (1, u "java/lang/Object"), (0, u "<init>"), (0, u "()V"), (0, .methodref 1 10), (0, .nameAndType 11 12), (0, u "checkIndex"), (0, u "(II)V"), (1, .class_ 16), (1, u "java/lang/StringLatin1"), (36, u "([BI)C"), (67, u "$assertionsDisabled"), (0, u "Z"), (98, .class_ 223), (1, u "java/lang/StringLatin1$LinesSpliterator"), (28, u "charAt"), (137, .class_ 391), (0, u "java/lang/StringLatin1$CharsSpliterator")] 3

def k8m0 : Method := { name := "<init>", desc := "()V", sig := { parameters := [], returnType := none }, accessFlags := 0, code := none }
def k8c1 : Code := { maxStack := 2, maxLocals := 2, code := jdk_43_method_2_code, exceptionTable := #[], attributes := #[] }
def k8m1 : Method := { name := "charAt", desc := "([BI)C", sig := { parameters := [(.array .byte), .int], returnType := some .char }, accessFlags := 9, code := some k8c1 }
/-- java/lang/StringLatin1 -/
def k8 : Class := { plain "java/lang/StringLatin1" (some 0) with
  accessFlags := 48
  interfaces := #[]
  cf := some (fileOf pool8 14 #[.nestMembers #[390, 221]] #[{ accessFlags := 0, nameIndex := 7, descriptorIndex := 8, attributes := #[] }, { accessFlags := 9, nameIndex := 252, descriptorIndex := 53, attributes := #[] }] 48 4 #[] #[{ accessFlags := 4120, nameIndex := 121, descriptorIndex := 122, attributes := #[] }])
  fields := #[{ name := "$assertionsDisabled", type := .boolean, accessFlags := 4120, slot := 0, constantValue := 0 }]
  methods := #[k8m0, k8m1]
  instanceTypes := #[]
  staticTypes := #[.boolean]
  resolved := Array.replicate 395 none
  statics := none }

def pool9 : Array CpInfo := pool [(2, .class_ 4), (1, u "java/lang/Object"), (0, u "<init>"), (0, u "()V"), (17, .class_ 26), (1, u "jdk/internal/util/Preconditions"), (6, u "checkIndex"), (21, .class_ 56), (0, u "jdk/internal/util/Preconditions$4"), (57, .class_ 115), (0, u "jdk/internal/util/Preconditions$1"), (7, u "SIOOBE_FORMATTER"), (0, u "Ljava/util/function/BiFunction;"), (0, .class_ 126), (0, u "jdk/internal/util/Preconditions$2"), (3, u "AIOOBE_FORMATTER"), (0, .class_ 132), (0, u "jdk/internal/util/Preconditions$3"), (3, u "IOOBE_FORMATTER"), (41, u "(IILjava/util/function/BiFunction;)I")] 15

def k9m0 : Method := { name := "<init>", desc := "()V", sig := { parameters := [], returnType := none }, accessFlags := 1, code := none }
def k9c1 : Code := { maxStack := 3, maxLocals := 3, code := jdk_41_method_11_code, exceptionTable := #[], attributes := #[] }
def k9m1 : Method := { name := "checkIndex", desc := "(IILjava/util/function/BiFunction;)I", sig := { parameters := [.int, .int, (.object "java/util/function/BiFunction")], returnType := some .int }, accessFlags := 9, code := some k9c1 }
/-- jdk/internal/util/Preconditions -/
def k9 : Class := { plain "jdk/internal/util/Preconditions" (some 0) with
  accessFlags := 33
  interfaces := #[]
  cf := some (fileOf pool9 24 #[.nestMembers #[55, 131, 125, 114]] #[{ accessFlags := 1, nameIndex := 5, descriptorIndex := 6, attributes := #[] }, { accessFlags := 9, nameIndex := 33, descriptorIndex := 178, attributes := #[] }] 33 2 #[] #[{ accessFlags := 25, nameIndex := 123, descriptorIndex := 124, attributes := #[] }, { accessFlags := 25, nameIndex := 130, descriptorIndex := 124, attributes := #[] }, { accessFlags := 25, nameIndex := 136, descriptorIndex := 124, attributes := #[] }])
  fields := #[{ name := "SIOOBE_FORMATTER", type := (.object "java/util/function/BiFunction"), accessFlags := 25, slot := 0, constantValue := 0 }, { name := "AIOOBE_FORMATTER", type := (.object "java/util/function/BiFunction"), accessFlags := 25, slot := 1, constantValue := 0 }, { name := "IOOBE_FORMATTER", type := (.object "java/util/function/BiFunction"), accessFlags := 25, slot := 2, constantValue := 0 }]
  methods := #[k9m0, k9m1]
  instanceTypes := #[]
  staticTypes := #[(.object "java/util/function/BiFunction"), (.object "java/util/function/BiFunction"), (.object "java/util/function/BiFunction")]
  resolved := Array.replicate 194 none
  statics := some 1 }

def pool10 : Array CpInfo := pool [(2, .class_ 4), (1, u "java/lang/Object"), (0, u "<init>"), (0, u "()V"), (18, .class_ 27), (1, u "com/example/web_dispatch/webdispatch/http/PercentEncoding"), (8, u "HEX"), (0, u "Ljava/util/HexFormat;"), (41, u "hexValue"), (0, u "(C)I"), (52, u "NOT_IN_URI"), (0, u "Ljava/lang/String;")] 27

def k10m0 : Method := { name := "<init>", desc := "()V", sig := { parameters := [], returnType := none }, accessFlags := 2, code := none }
def k10c1 : Code := { maxStack := 2, maxLocals := 1, code := prog_69_method_5_code, exceptionTable := #[], attributes := #[] }
def k10m1 : Method := { name := "hexValue", desc := "(C)I", sig := { parameters := [.char], returnType := some .int }, accessFlags := 8, code := some k10c1 }
/-- com/example/web_dispatch/webdispatch/http/PercentEncoding -/
def k10 : Class := { plain "com/example/web_dispatch/webdispatch/http/PercentEncoding" (some 0) with
  accessFlags := 49
  interfaces := #[]
  cf := some (fileOf pool10 25 #[] #[{ accessFlags := 2, nameIndex := 5, descriptorIndex := 6, attributes := #[] }, { accessFlags := 8, nameIndex := 79, descriptorIndex := 80, attributes := #[] }] 49 2 #[] #[{ accessFlags := 26, nameIndex := 133, descriptorIndex := 134, attributes := #[] }, { accessFlags := 26, nameIndex := 36, descriptorIndex := 37, attributes := #[] }])
  fields := #[{ name := "NOT_IN_URI", type := (.object "java/lang/String"), accessFlags := 26, slot := 0, constantValue := 0 }, { name := "HEX", type := (.object "java/util/HexFormat"), accessFlags := 26, slot := 1, constantValue := 0 }]
  methods := #[k10m0, k10m1]
  instanceTypes := #[]
  staticTypes := #[(.object "java/lang/String"), (.object "java/util/HexFormat")]
  resolved := Array.replicate 162 none
  statics := none }

def pool11 : Array CpInfo := pool [(9, u "<init>"), (6, .class_ 18), (1, u "java/lang/Object"), (0, u "()V"), (1, .class_ 23), (1, u "jdk/internal/util/ArraysSupport"), (0, u "LOG2_ARRAY_LONG_INDEX_SCALE"), (0, u "I"), (2, u "U"), (0, u "Ljdk/internal/misc/Unsafe;"), (8, u "BIG_ENDIAN"), (0, u "Z"), (8, u "LOG2_BYTE_BIT_SIZE"), (4, u "LOG2_ARRAY_INT_INDEX_SCALE"), (54, u "JLA"), (0, u "Ljdk/internal/access/JavaLangAccess;"), (11, u "LOG2_ARRAY_BOOLEAN_INDEX_SCALE"), (9, u "LOG2_ARRAY_BYTE_INDEX_SCALE"), (5, u "LOG2_ARRAY_CHAR_INDEX_SCALE"), (5, u "LOG2_ARRAY_SHORT_INDEX_SCALE"), (18, u "LOG2_ARRAY_FLOAT_INDEX_SCALE"), (24, u "LOG2_ARRAY_DOUBLE_INDEX_SCALE"), (89, u "T_BOOLEAN"), (2, u "T_CHAR"), (1, u "T_FLOAT"), (1, u "T_DOUBLE"), (1, u "T_BYTE"), (1, u "T_SHORT"), (1, u "T_INT"), (1, u "T_LONG"), (1, u "SOFT_MAX_ARRAY_LENGTH")] 83

def k11m0 : Method := { name := "<init>", desc := "()V", sig := { parameters := [], returnType := none }, accessFlags := 2, code := none }
/-- jdk/internal/util/ArraysSupport -/
def k11 : Class := { plain "jdk/internal/util/ArraysSupport" (some 0) with
  accessFlags := 33
  interfaces := #[]
  cf := some (fileOf pool11 21 #[] #[{ accessFlags := 2, nameIndex := 9, descriptorIndex := 19, attributes := #[] }] 33 16 #[] #[{ accessFlags := 24, nameIndex := 28, descriptorIndex := 29, attributes := #[] }, { accessFlags := 26, nameIndex := 38, descriptorIndex := 39, attributes := #[] }, { accessFlags := 25, nameIndex := 121, descriptorIndex := 25, attributes := #[] }, { accessFlags := 25, nameIndex := 131, descriptorIndex := 25, attributes := #[] }, { accessFlags := 25, nameIndex := 137, descriptorIndex := 25, attributes := #[] }, { accessFlags := 25, nameIndex := 143, descriptorIndex := 25, attributes := #[] }, { accessFlags := 25, nameIndex := 53, descriptorIndex := 25, attributes := #[] }, { accessFlags := 25, nameIndex := 24, descriptorIndex := 25, attributes := #[] }, { accessFlags := 25, nameIndex := 162, descriptorIndex := 25, attributes := #[] }, { accessFlags := 25, nameIndex := 187, descriptorIndex := 25, attributes := #[] }, { accessFlags := 26, nameIndex := 48, descriptorIndex := 25, attributes := #[] }, { accessFlags := 25, nameIndex := 277, descriptorIndex := 25, attributes := #[] }, { accessFlags := 25, nameIndex := 280, descriptorIndex := 25, attributes := #[] }, { accessFlags := 25, nameIndex := 282, descriptorIndex := 25, attributes := #[] }, { accessFlags := 25, nameIndex := 284, descriptorIndex := 25, attributes := #[] }, { accessFlags := 25, nameIndex := 286, descriptorIndex := 25, attributes := #[] }, { accessFlags := 25, nameIndex := 288, descriptorIndex := 25, attributes := #[] }, { accessFlags := 25, nameIndex := 290, descriptorIndex := 25, attributes := #[] }, { accessFlags := 25, nameIndex := 292, descriptorIndex := 25, attributes := #[] }, { accessFlags := 26, nameIndex := 108, descriptorIndex := 109, attributes := #[] }, { accessFlags := 25, nameIndex := 294, descriptorIndex := 25, attributes := #[] }])
  fields := #[{ name := "U", type := (.object "jdk/internal/misc/Unsafe"), accessFlags := 24, slot := 0, constantValue := 0 }, { name := "BIG_ENDIAN", type := .boolean, accessFlags := 26, slot := 1, constantValue := 0 }, { name := "LOG2_ARRAY_BOOLEAN_INDEX_SCALE", type := .int, accessFlags := 25, slot := 2, constantValue := 0 }, { name := "LOG2_ARRAY_BYTE_INDEX_SCALE", type := .int, accessFlags := 25, slot := 3, constantValue := 0 }, { name := "LOG2_ARRAY_CHAR_INDEX_SCALE", type := .int, accessFlags := 25, slot := 4, constantValue := 0 }, { name := "LOG2_ARRAY_SHORT_INDEX_SCALE", type := .int, accessFlags := 25, slot := 5, constantValue := 0 }, { name := "LOG2_ARRAY_INT_INDEX_SCALE", type := .int, accessFlags := 25, slot := 6, constantValue := 0 }, { name := "LOG2_ARRAY_LONG_INDEX_SCALE", type := .int, accessFlags := 25, slot := 7, constantValue := 0 }, { name := "LOG2_ARRAY_FLOAT_INDEX_SCALE", type := .int, accessFlags := 25, slot := 8, constantValue := 0 }, { name := "LOG2_ARRAY_DOUBLE_INDEX_SCALE", type := .int, accessFlags := 25, slot := 9, constantValue := 0 }, { name := "LOG2_BYTE_BIT_SIZE", type := .int, accessFlags := 26, slot := 10, constantValue := 0 }, { name := "T_BOOLEAN", type := .int, accessFlags := 25, slot := 11, constantValue := 0 }, { name := "T_CHAR", type := .int, accessFlags := 25, slot := 12, constantValue := 0 }, { name := "T_FLOAT", type := .int, accessFlags := 25, slot := 13, constantValue := 0 }, { name := "T_DOUBLE", type := .int, accessFlags := 25, slot := 14, constantValue := 0 }, { name := "T_BYTE", type := .int, accessFlags := 25, slot := 15, constantValue := 0 }, { name := "T_SHORT", type := .int, accessFlags := 25, slot := 16, constantValue := 0 }, { name := "T_INT", type := .int, accessFlags := 25, slot := 17, constantValue := 0 }, { name := "T_LONG", type := .int, accessFlags := 25, slot := 18, constantValue := 0 }, { name := "JLA", type := (.object "jdk/internal/access/JavaLangAccess"), accessFlags := 26, slot := 19, constantValue := 0 }, { name := "SOFT_MAX_ARRAY_LENGTH", type := .int, accessFlags := 25, slot := 20, constantValue := 0 }]
  methods := #[k11m0]
  instanceTypes := #[]
  staticTypes := #[(.object "jdk/internal/misc/Unsafe"), .boolean, .int, .int, .int, .int, .int, .int, .int, .int, .int, .int, .int, .int, .int, .int, .int, .int, .int, (.object "jdk/internal/access/JavaLangAccess"), .int]
  resolved := Array.replicate 378 none
  statics := none }

def pool12 : Array CpInfo := pool [(1, u "java/lang/Cloneable"), (0, .class_ 1), (0, u "java/lang/Object"), (0, .class_ 3)] 3

/-- java/lang/Cloneable -/
def k12 : Class := { plain "java/lang/Cloneable" (some 0) with
  accessFlags := 1537
  interfaces := #[]
  cf := some (fileOf pool12 2 #[] #[] 1537 4 #[] #[])
  fields := #[]
  methods := #[]
  instanceTypes := #[]
  staticTypes := #[]
  resolved := Array.replicate 8 none
  statics := none }

/-- the primitive byte -/
def k13 : Class := { plain "byte" none with kind := .primitive 'B', accessFlags := 0x411 }
/-- [B -/
def k14 : Class := { plain "[B" (some 0) with kind := .array 13 .byte, interfaces := #[12, 2], accessFlags := 1041 }

/-- the primitive int -/
def k15 : Class := { plain "int" none with kind := .primitive 'I', accessFlags := 0x411 }
/-- [I -/
def k16 : Class := { plain "[I" (some 0) with kind := .array 15 .int, interfaces := #[12, 2], accessFlags := 1041 }

def heap : Heap := #[{ cls := 7, slots := #[.long 0, .int 1, .null, .int 0, .null, .int 0, .int 0], vm := .statics 7 },
  { cls := 9, slots := #[.null, .null, .null], vm := .statics 9 }]
def classes : Array Class := #[k0, k1, k2, k3, k4, k5, k6, k7, k8, k9, k10, k11, k12, k13, k14, k15, k16]
def interned : List (Array UInt16 × Addr) := []
def slotsUsed : Nat := 10
def theMethod : MethodId := ⟨1, 1⟩
def args0 : Array Value := #[.int 5, .int 7]
def aboutOver (below : List Frame) : State where
  vm := { classes := classes, interned := interned.toArray }
  heap := heap
  slotsUsed := slotsUsed
  threads := #[{ frames := .invoking theMethod args0 :: below }]
def below0 : List Frame := [.native { method := ⟨0, 0⟩, args := #[] }]
def about1 : State := aboutOver below0
def p0 : Program := .bare "" "" ""
def e0 : Env := launch0.env 0 0 0
theorem w_frames : about1.frames = Frame.invoking theMethod args0 :: below0 := rfl
set_option maxRecDepth 65536 in
theorem w_args : argsFit about1.vm theMethod args0 = true := by decide +kernel
set_option maxRecDepth 65536 in
theorem w_heap : heapFits about1 = true := by decide +kernel
set_option maxRecDepth 65536 in
theorem w_runnable : about1.curStatus? = some .runnable := by decide +kernel
set_option maxRecDepth 65536 in
theorem w_alone : about1.alone = true := by decide +kernel
set_option maxRecDepth 65536 in
theorem w_named : about1.methodNamed? x = some theMethod := by decide +kernel
set_option maxRecDepth 65536 in
theorem w_hears : about1.hears theMethod below0 = true := by decide +kernel
set_option maxRecDepth 65536 in
theorem w_ripe : about1.ripe theMethod args0 below0 = true := by decide +kernel
theorem w_running : about1.status = .running := rfl
set_option maxRecDepth 65536 in
theorem w_room : about1.hasRoom e0.platform room_1 = true :=
  launch0.hasRoom_least _ room_1 (by decide +kernel) (by decide +kernel) (by decide +kernel) (by decide +kernel) (by decide +kernel) (by decide +kernel)
theorem allAtoms_all (ts : List Jvm.Cond) (a : Array Jvm.Value) (st : Jvm.State) : (allAtoms ts).before a st = ts.all (fun c => c.before a st) := by
  induction ts with
  | nil => rfl
  | cons c t ih =>
    show (Jvm.Cond.and c (allAtoms t)).before a st = _
    rw [Jvm.Cond.before_and, ih, List.all_cons]
def words1 : List Jvm.Cond := Jvm.Cond.code x code maxLocals ret :: tables_1
/-- a 'code' word, met by the world's own term for the bytes: nothing is compared byte by byte -/
theorem code_word {y : MethodName} {bytes : ByteArray} {mx : Nat} {rt : Option FieldType} {a : Array Value} {s : State} {m : MethodId} {meth : Method} {c : Code} (h1 : s.methodNamed? y = some m) (h2 : s.vm.method? m = some meth) (h3 : meth.code = some c) (h4 : c.code = bytes)
    (h5 : (c.maxLocals == mx && c.exceptionTable.isEmpty && decide (c.maxStack ≤ mostOperands) && decide (meth.sig.returnType = rt) && !meth.locks && decide (parseMethodDescriptor y.desc = some meth.sig)) = true) : (Jvm.Cond.code y bytes mx rt).before a s = true := by
  simp only [Bool.and_eq_true, beq_iff_eq, Bool.not_eq_true', decide_eq_true_eq] at h5
  obtain ⟨⟨⟨⟨⟨g1, g2⟩, g3⟩, g4⟩, g5⟩, g6⟩ := h5
  simp [Cond.before, Cond.holds, Cond.value, h1, h2, h3, h4, g1, g2, g3, g4, g5, g6]
def isCode : Jvm.Cond → Bool
  | .code _ _ _ _ => true
  | _ => false
theorem all_split {L : List Jvm.Cond} {P : Jvm.Cond → Bool} (h1 : L.all (fun c => isCode c || P c) = true) (h2 : ∀ c ∈ L.filter isCode, P c = true) : L.all P = true := by
  refine List.all_eq_true.mpr fun c hc => ?_
  have h := List.all_eq_true.mp h1 c hc
  rcases Bool.eq_false_or_eq_true (isCode c) with hi | hi
  · exact h2 c (List.mem_filter.mpr ⟨hc, hi⟩)
  · simpa [hi] using h
set_option maxRecDepth 65536 in
theorem w_c0 : (Jvm.Cond.code x code maxLocals ret).before args0 about1 = true := code_word (m := ⟨1, 1⟩) (meth := k1m1) (c := k1c1) (by decide +kernel) rfl rfl rfl (by decide +kernel)
set_option maxRecDepth 65536 in
theorem w_c1 : (Jvm.Cond.code ({ cls := "java/lang/String", name := "charAt", desc := "(I)C" } : Jvm.MethodName) jdk_42_method_56_code (2 : Nat) (Option.some Jvm.ClassFile.FieldType.char)).before args0 about1 = true := code_word (m := ⟨7, 1⟩) (meth := k7m1) (c := k7c1) (by decide +kernel) rfl rfl rfl (by decide +kernel)
set_option maxRecDepth 65536 in
theorem w_c2 : (Jvm.Cond.code ({ cls := "java/lang/String", name := "isLatin1", desc := "()Z" } : Jvm.MethodName) jdk_42_method_154_code (1 : Nat) (Option.some Jvm.ClassFile.FieldType.boolean)).before args0 about1 = true := code_word (m := ⟨7, 2⟩) (meth := k7m2) (c := k7c2) (by decide +kernel) rfl rfl rfl (by decide +kernel)
set_option maxRecDepth 65536 in
theorem w_c3 : (Jvm.Cond.code ({ cls := "java/lang/StringLatin1", name := "charAt", desc := "([BI)C" } : Jvm.MethodName) jdk_43_method_2_code (2 : Nat) (Option.some Jvm.ClassFile.FieldType.char)).before args0 about1 = true := code_word (m := ⟨8, 1⟩) (meth := k8m1) (c := k8c1) (by decide +kernel) rfl rfl rfl (by decide +kernel)
set_option maxRecDepth 65536 in
theorem w_c4 : (Jvm.Cond.code ({ cls := "java/lang/String", name := "checkIndex", desc := "(II)V" } : Jvm.MethodName) jdk_42_method_155_code (2 : Nat) (Option.none : Option Jvm.ClassFile.FieldType)).before args0 about1 = true := code_word (m := ⟨7, 3⟩) (meth := k7m3) (c := k7c3) (by decide +kernel) rfl rfl rfl (by decide +kernel)
set_option maxRecDepth 65536 in
theorem w_c5 : (Jvm.Cond.code ({ cls := "jdk/internal/util/Preconditions", name := "checkIndex", desc := "(IILjava/util/function/BiFunction;)I" } : Jvm.MethodName) jdk_41_method_11_code (3 : Nat) (Option.some Jvm.ClassFile.FieldType.int)).before args0 about1 = true := code_word (m := ⟨9, 1⟩) (meth := k9m1) (c := k9c1) (by decide +kernel) rfl rfl rfl (by decide +kernel)
set_option maxRecDepth 65536 in
theorem w_c6 : (Jvm.Cond.code ({ cls := "com/example/web_dispatch/webdispatch/http/PercentEncoding", name := "hexValue", desc := "(C)I" } : Jvm.MethodName) prog_69_method_5_code (1 : Nat) (Option.some Jvm.ClassFile.FieldType.int)).before args0 about1 = true := code_word (m := ⟨10, 1⟩) (meth := k10m1) (c := k10c1) (by decide +kernel) rfl rfl rfl (by decide +kernel)
def codes1 : List Jvm.Cond := [Jvm.Cond.code x code maxLocals ret, Jvm.Cond.code ({ cls := "java/lang/String", name := "charAt", desc := "(I)C" } : Jvm.MethodName) jdk_42_method_56_code (2 : Nat) (Option.some Jvm.ClassFile.FieldType.char), Jvm.Cond.code ({ cls := "java/lang/String", name := "isLatin1", desc := "()Z" } : Jvm.MethodName) jdk_42_method_154_code (1 : Nat) (Option.some Jvm.ClassFile.FieldType.boolean), Jvm.Cond.code ({ cls := "java/lang/StringLatin1", name := "charAt", desc := "([BI)C" } : Jvm.MethodName) jdk_43_method_2_code (2 : Nat) (Option.some Jvm.ClassFile.FieldType.char), Jvm.Cond.code ({ cls := "java/lang/String", name := "checkIndex", desc := "(II)V" } : Jvm.MethodName) jdk_42_method_155_code (2 : Nat) (Option.none : Option Jvm.ClassFile.FieldType), Jvm.Cond.code ({ cls := "jdk/internal/util/Preconditions", name := "checkIndex", desc := "(IILjava/util/function/BiFunction;)I" } : Jvm.MethodName) jdk_41_method_11_code (3 : Nat) (Option.some Jvm.ClassFile.FieldType.int), Jvm.Cond.code ({ cls := "com/example/web_dispatch/webdispatch/http/PercentEncoding", name := "hexValue", desc := "(C)I" } : Jvm.MethodName) prog_69_method_5_code (1 : Nat) (Option.some Jvm.ClassFile.FieldType.int)]
set_option maxRecDepth 65536 in
theorem codes_eq : words1.filter isCode = codes1 := rfl
theorem w_codes : ∀ c ∈ words1.filter isCode, c.before args0 about1 = true := by
  rw [codes_eq]
  intro c hc
  simp only [codes1, List.mem_cons, List.not_mem_nil, or_false] at hc
  rcases hc with rfl | rfl | rfl | rfl | rfl | rfl | rfl
  · exact w_c0
  · exact w_c1
  · exact w_c2
  · exact w_c3
  · exact w_c4
  · exact w_c5
  · exact w_c6
set_option maxRecDepth 65536 in
theorem w_t1 : (words1.take 24).all (fun c => isCode c || c.before args0 about1) = true := by decide +kernel
set_option maxRecDepth 65536 in
theorem w_t2 : (words1.drop 24).all (fun c => isCode c || c.before args0 about1) = true := by decide +kernel
theorem w_tables : (allAtoms (Jvm.Cond.code x code maxLocals ret :: tables_1)).before args0 about1 = true := by
  rw [allAtoms_all]
  show words1.all (fun c => c.before args0 about1) = true
  refine all_split ?_ w_codes
  rw [← List.take_append_drop 24 words1, List.all_append, w_t1, w_t2]
  rfl
set_option maxRecDepth 65536 in
theorem w_rest : rest_1_c.before args0 about1 = true := by decide +kernel
set_option maxRecDepth 65536 in
theorem w_case : (Jvm.Cond.and given_1 narrow_1).before args0 about1 = true := by decide +kernel
set_option maxRecDepth 65536 in
theorem w_consts : constsHeld consts_1 about1 := Jvm.Lit.constsHeldB_iff.mp (by decide +kernel)
theorem w_applies : (headSpec (Jvm.Cond.code x code maxLocals ret :: tables_1) room_1).applies x e0.platform about1 = true :=
  (Spec.applies_iff w_frames).mpr ⟨w_running, w_runnable, w_alone, w_named, w_hears, w_ripe, w_room, w_tables⟩
theorem atStart : AtStart classFile x code maxLocals ret World_1 tables_1 room_1 Calls_1 rest_1 Pre_1 launch0 p0 e0 about1 theMethod args0 below0 :=
  ⟨lists_1, trivial, launch0.admits_env _ _ _, launch0.least_env, fairChoices_fair.cas, fairChoices_fair.clock, w_frames, w_args, w_heap, w_applies, ⟨w_consts, trivial⟩, w_rest, w_case⟩
end start1
theorem witness_1 : WitnessClaimed_1 := ⟨start1.p0, start1.e0, start1.about1, start1.theMethod, start1.args0, start1.below0, start1.atStart⟩
end Jvm.Pilot.@@N@@
