import JvmDerived
import JvmDerived.Pilot.@@N@@Statement
import JvmDerived.Pilot.@@N@@Code
set_option linter.unusedVariables false
set_option linter.unusedSimpArgs false
namespace Jvm.Pilot.@@N@@
open Jvm Jvm.ClassFile Sem Op Lib Jvm.Free Jvm.Stand Jvm.LawKit Jvm.RoadKit Bundle Jvm.Pilot.@@N@@.Jvm.D
def own_Go (tb : Tables) (e : Env) (below : List Frame) (P : State → Outcome → Prop) (A : State) : Prop := ∃ s₂ o, Steps tb e below A s₂ ∧ P s₂ o
theorem own_in {tb : Tables} {e : Env} {below : List Frame} {P : State → Outcome → Prop} {A : State} (h : own_Go tb e below P A) : ∃ s₂ o, Steps tb e below A s₂ ∧ P s₂ o := h
theorem own_st {tb : Tables} {e : Env} {below : List Frame} {P : State → Outcome → Prop} {A B : State} (h : ∀ t, Steps tb e below B t → Steps tb e below A t) (k : own_Go tb e below P B) : own_Go tb e below P A := by
  obtain ⟨s₂, o, h1, h2⟩ := k
  exact ⟨s₂, o, h _ h1, h2⟩
theorem own_tr {tb : Tables} {e : Env} {below : List Frame} {P : State → Outcome → Prop} {A B : State} (h : Steps tb e below A B) (k : own_Go tb e below P B) : own_Go tb e below P A := by
  obtain ⟨s₂, o, h1, h2⟩ := k
  exact ⟨s₂, o, h.trans h1, h2⟩
theorem own_out {tb : Tables} {e : Env} {below : List Frame} {P : State → Outcome → Prop} {A B : State} {o : Outcome} (h : Steps tb e below A B) (k : P B o) : own_Go tb e below P A := ⟨B, o, h, k⟩
theorem own_join {ι : Type} {tb : Tables} {e : Env} {below : List Frame} {P : State → Outcome → Prop} {A : State} (B : ι → State) (K : ι → Prop) (hJ : ∀ b, K b → own_Go tb e below P (B b)) (h : (∀ b, K b → own_Go tb e below P (B b)) → own_Go tb e below P A) : own_Go tb e below P A := h hJ
theorem own_cast {tb : Tables} {e : Env} {below : List Frame} {P : State → Outcome → Prop} {A B : State} (q : A = B) (k : own_Go tb e below P B) : own_Go tb e below P A := q ▸ k
section Own
variable {p : Program} {l : Launch} {e : Env} {R : Room} {s : State} {m : MethodId} {args : Array Value} {below : List Frame} {meth : Method} {c : Code} {T : State} {locs : List Loc} {cells slots : Nat}
theorem own_retI (X : Stand p l e R s m args below meth c T locs cells slots) (hx : p.tables.exec = Jvm.exec) {pc : Nat} {Ls : Array Slot} {z : Int32} {rest : List Value} (hret : meth.sig.returnType = some .int) (hd : decode c.code pc = .ok (.ireturn, 1)) {fs : List Frame}
    (hl : ∀ (f : JFrame) (acts : List Action), f.method = m → f.locked = none → f.entered = [] → (doReturn e (T.setTop f) acts (some (.int z))).1 = T.setFrames fs) : Steps p.tables e below (T.setTop (mkF m pc Ls (.int z :: rest))) (T.setFrames fs) := by
  have hm' : T.vm.method? m = some meth := X.method'
  have hn : narrow .int (.int z) = .int z := rfl
  show Steps p.tables e below (T.setTop { method := m, pc := pc, locals := Ls, stack := _ :: rest, locked := none }) _
  jvm_step X.here [X.here.top, hx, hd, hm', hret, hn]
  first | (intro acts; rw [hl _ acts rfl rfl rfl]) | rw [hl _ _ rfl rfl rfl]
  exact Steps.refl _
end Own
theorem own_getD (bs : List Int32) (k : Nat) : (bs.map Value.int).getD k (.int (0 : Int32)) = .int (bs.getD k 0) := by
  simp only [List.getD_eq_getElem?_getD, List.getElem?_map]
  cases bs[k]? <;> rfl
def own_cat (bs : List Int32) (j : Int32) : Int32 := nar .char (nar .char (((bs.getD j.toNatClampNeg 0) &&& (255 : Int32)).toUInt32.toUInt16.toUInt32.toInt32))
theorem d3_0 : decode jdk_42_method_154_code 0 = .ok (.getstatic 38, 3) := by decide +kernel
theorem d3_3 : decode jdk_42_method_154_code 3 = .ok (.ifCond .eq 14, 3) := by decide +kernel
theorem d3_6 : decode jdk_42_method_154_code 6 = .ok (.aload_n 0, 1) := by decide +kernel
theorem d3_7 : decode jdk_42_method_154_code 7 = .ok (.getfield 15, 3) := by decide +kernel
theorem d3_10 : decode jdk_42_method_154_code 10 = .ok (.ifCond .ne 7, 3) := by decide +kernel
theorem d3_13 : decode jdk_42_method_154_code 13 = .ok (.iconst 1, 1) := by decide +kernel
theorem d3_14 : decode jdk_42_method_154_code 14 = .ok (.goto 4, 3) := by decide +kernel
theorem d3_17 : decode jdk_42_method_154_code 17 = .ok (.iconst 0, 1) := by decide +kernel
theorem d3_18 : decode jdk_42_method_154_code 18 = .ok (.ireturn, 1) := by decide +kernel
theorem own_pd0 : parseMethodDescriptor "()Z" = some ⟨[], some .boolean⟩ := by decide +kernel
theorem own_pn0 : plainName "java/lang/String" = true := by first | (simp [plainName, overriddenIn]; done) | decide +kernel
def Q3 (Z : State) (ob : Addr) (G1 : Int32) (h0 : Heap) (n0 : Nat) (v : Option Value) (h : Heap) (L : List Loc) : Prop := v = some (.int (1 : Int32)) ∧ Fr n0 L ∧ h = h0
theorem ef_3 (m : MethodId) (x0 : Addr) : entryFrame m #[(.ref x0)] 1 = mkF m 0 #[.val (.ref x0)] [] := by first | (simp [entryFrame, mkF, argsToLocals, Value.category]; done) | rfl
set_option maxRecDepth 65536 in
set_option maxHeartbeats 40000000 in
theorem rm3 (l : Launch) (Z : State) (a0 : Array Value) (hw : ∀ d ∈ tables_1, d.before a0 Z = true) (ws : List Jvm.Cond) (ob : Addr) (G1 : Int32) (h0 : Heap) (n0 : Nat) (Z0 : n0 ≤ h0.size) (S1 : Sta Z h0 "java/lang/String" "COMPACT_STRINGS" "Z" (.int G1)) (hG : ¬ (G1 = (0 : Int32))) (F_coder : Fld Z h0 ob "java/lang/String" "coder" "B" (.int (0 : Int32))) :
    MetFree l (⟨"java/lang/String", "isLatin1", "()Z"⟩ : MethodName) (head1 (Jvm.Cond.code (⟨"java/lang/String", "isLatin1", "()Z"⟩ : MethodName) jdk_42_method_154_code 1 (some .boolean) :: ws) ({ frames := 0, cells := 0, slots := 0, locals := 0 } : Room)) (fun a U => a = #[(.ref ob)] ∧ Z.Warmed39 U.vm ∧ U.heap = h0) (fun _ _ _ _ _ => True) (fun _ U o U' => ∃ v L, o = .returned v ∧ Q3 Z ob G1 h0 n0 v U'.heap L ∧ FrameEnd U o U' L ({ frames := 0, cells := 0, slots := 0, locals := 0 } : Room).cells ({ frames := 0, cells := 0, slots := 0, locals := 0 } : Room).slots) := by
  refine MetFree.of_bodySF (plainFor_of_name own_pn0) hisR ?_
  intro p e s m args below meth c s₁ Bd hml0 hP hK
  obtain ⟨rfl, hZ, hh⟩ := hP
  have hx := Bd.exec
  have hby := Bd.bytes
  have hml : c.maxLocals = 1 := hml0
  have hown : s.vm.findClass "java/lang/String" = some m.cls := findClass_of_methodNamed Bd.named
  have hnm := (name_of_methodNamed Bd.named Bd.method).1
  have X0 : Stand p l e ({ frames := 0, cells := 0, slots := 0, locals := 0 } : Room) s m #[(.ref ob)] below meth c s₁ [] 0 0 := Stand.of_body Bd
  have e0 : s₁.heap = h0 := by rw [← hh, Bd.state]; rfl
  have N0 := Fr.nil n0
  refine own_in ?_
  refine own_st (fun _ k => castTop (ef_3 m ob) k) ?_
  have K0 : Keep h0 h0 [] := Keep.refl h0 []
  show own_Go _ _ _ _ (s₁.setTop (mkF m 0 #[.val (.ref ob)] []))
  obtain ⟨T1, X1, e1, st1⟩ := getS2 X0 hx hZ hown (host := "") (Or.inl (hw _ (List.mem_of_getElem? (i := 22) rfl))) Via.refl e0 S1 (g := (mkF m 0 #[.val (.ref ob)] [])) rfl (hb hby d3_0)
  refine own_st st1 ?_
  show own_Go _ _ _ _ (T1.setTop (mkF m 3 #[.val (.ref ob)] [(.int G1)]))
  refine own_st (fun _ k => XS.ifNo X1.here hx rfl (hb hby d3_3) rfl ((if0 _ _).trans (feq (hG)).1) k) ?_
  show own_Go _ _ _ _ (T1.setTop (mkF m 6 #[.val (.ref ob)] []))
  refine own_st (fun _ k => XS.aloadN X1.here hx rfl (hb hby d3_6) rfl rfl k) ?_
  show own_Go _ _ _ _ (T1.setTop (mkF m 7 #[.val (.ref ob)] [(.ref ob)]))
  obtain ⟨T2, X2, e2, st2⟩ := getF X1 hx hZ hown (host := "") (Or.inl (hw _ (List.mem_of_getElem? (i := 23) rfl))) Via.refl e1 F_coder (g := (mkF m 7 #[.val (.ref ob)] [(.ref ob)])) rfl rfl (hb hby d3_7)
  refine own_st st2 ?_
  show own_Go _ _ _ _ (T2.setTop (mkF m 10 #[.val (.ref ob)] [(.int (0 : Int32))]))
  refine own_st (fun _ k => XS.ifNo X2.here hx rfl (hb hby d3_10) rfl ((if0 _ _).trans (teq (by decide : ((0 : Int32) = (0 : Int32)))).2) k) ?_
  show own_Go _ _ _ _ (T2.setTop (mkF m 13 #[.val (.ref ob)] []))
  refine own_st (fun _ k => XS.iconst X2.here hx rfl (hb hby d3_13) k) ?_
  show own_Go _ _ _ _ (T2.setTop (mkF m 14 #[.val (.ref ob)] [(.int (1 : Int32))]))
  refine own_st (fun _ k => XS.goto X2.here hx rfl (pc0 := 14) (pc' := 18) rfl (hb hby d3_14) (by decide) (by decide) k) ?_
  show own_Go _ _ _ _ (T2.setTop (mkF m 18 #[.val (.ref ob)] [(.int (1 : Int32))]))
  obtain ⟨fs, hr, hrun, hended, hW, hsame⟩ := X2.leave (v := some (.int (1 : Int32))) (fun h => by rw [Bd.returns] at h; cases h)
  refine own_out (retN X2 hx (t := .boolean) Bd.returns (by simp) (hb hby d3_18) hr) ⟨hrun, hended, _, _, rfl, ?_, ⟨_, rfl⟩, hW, hsame.mono (by decide) (by decide)⟩
  show Q3 Z ob G1 h0 n0 _ T2.heap _
  exact ⟨rfl, N0, e2⟩
theorem d6_0 : decode jdk_41_method_11_code 0 = .ok (.iload_n 0, 1) := by decide +kernel
theorem d6_1 : decode jdk_41_method_11_code 1 = .ok (.ifCond .lt 8, 3) := by decide +kernel
theorem d6_4 : decode jdk_41_method_11_code 4 = .ok (.iload_n 0, 1) := by decide +kernel
theorem d6_5 : decode jdk_41_method_11_code 5 = .ok (.iload_n 1, 1) := by decide +kernel
theorem d6_6 : decode jdk_41_method_11_code 6 = .ok (.if_icmp .lt 10, 3) := by decide +kernel
theorem d6_9 : decode jdk_41_method_11_code 9 = .ok (.aload_n 2, 1) := by decide +kernel
theorem d6_10 : decode jdk_41_method_11_code 10 = .ok (.iload_n 0, 1) := by decide +kernel
theorem d6_11 : decode jdk_41_method_11_code 11 = .ok (.iload_n 1, 1) := by decide +kernel
theorem d6_12 : decode jdk_41_method_11_code 12 = .ok (.invokestatic 95, 3) := by decide +kernel
theorem d6_15 : decode jdk_41_method_11_code 15 = .ok (.athrow, 1) := by decide +kernel
theorem d6_16 : decode jdk_41_method_11_code 16 = .ok (.iload_n 0, 1) := by decide +kernel
theorem d6_17 : decode jdk_41_method_11_code 17 = .ok (.ireturn, 1) := by decide +kernel
theorem own_pd1 : parseMethodDescriptor "(IILjava/util/function/BiFunction;)I" = some ⟨[.int, .int, (.object "java/util/function/BiFunction")], some .int⟩ := by decide +kernel
theorem own_pn1 : plainName "jdk/internal/util/Preconditions" = true := by first | (simp [plainName, overriddenIn]; done) | decide +kernel
def Q6n (Z : State) (u0 : Int32) (u1 : Int32)  (h0 : Heap) (n0 : Nat) (v : Option Value) (h : Heap) (L : List Loc) : Prop := v = some (.int u0) ∧ Fr n0 L ∧ h = h0
theorem ef_6n (m : MethodId) (x0 : Int32) (x1 : Int32) : entryFrame m #[(.int x0), (.int x1), .null] 3 = mkF m 0 #[.val (.int x0), .val (.int x1), .val .null] [] := by first | (simp [entryFrame, mkF, argsToLocals, Value.category]; done) | rfl
set_option maxRecDepth 65536 in
set_option maxHeartbeats 40000000 in
theorem rm6n (l : Launch) (Z : State) (a0 : Array Value) (hw : ∀ d ∈ tables_1, d.before a0 Z = true) (ws : List Jvm.Cond) (u0 : Int32) (u1 : Int32)  (h0 : Heap) (n0 : Nat) (Z0 : n0 ≤ h0.size) (hj0 : ¬ (u0 < (0 : Int32))) (hj1 : u0 < u1) :
    MetFree l (⟨"jdk/internal/util/Preconditions", "checkIndex", "(IILjava/util/function/BiFunction;)I"⟩ : MethodName) (head1 (Jvm.Cond.code (⟨"jdk/internal/util/Preconditions", "checkIndex", "(IILjava/util/function/BiFunction;)I"⟩ : MethodName) jdk_41_method_11_code 3 (some .int) :: ws) ({ frames := 0, cells := 0, slots := 0, locals := 0 } : Room)) (fun a U => a = #[(.int u0), (.int u1), .null] ∧ Z.Warmed39 U.vm ∧ U.heap = h0) (fun _ _ _ _ _ => True) (fun _ U o U' => ∃ v L, o = .returned v ∧ Q6n Z u0 u1 h0 n0 v U'.heap L ∧ FrameEnd U o U' L ({ frames := 0, cells := 0, slots := 0, locals := 0 } : Room).cells ({ frames := 0, cells := 0, slots := 0, locals := 0 } : Room).slots) := by
  refine MetFree.of_bodySF (plainFor_of_name own_pn1) hisR ?_
  intro p e s m args below meth c s₁ Bd hml0 hP hK
  obtain ⟨rfl, hZ, hh⟩ := hP
  have hx := Bd.exec
  have hby := Bd.bytes
  have hml : c.maxLocals = 3 := hml0
  have hown : s.vm.findClass "jdk/internal/util/Preconditions" = some m.cls := findClass_of_methodNamed Bd.named
  have hnm := (name_of_methodNamed Bd.named Bd.method).1
  have X0 : Stand p l e ({ frames := 0, cells := 0, slots := 0, locals := 0 } : Room) s m #[(.int u0), (.int u1), .null] below meth c s₁ [] 0 0 := Stand.of_body Bd
  have e0 : s₁.heap = h0 := by rw [← hh, Bd.state]; rfl
  have N0 := Fr.nil n0
  refine own_in ?_
  refine own_st (fun _ k => castTop (ef_6n m u0 u1) k) ?_
  have K0 : Keep h0 h0 [] := Keep.refl h0 []
  show own_Go _ _ _ _ (s₁.setTop (mkF m 0 #[.val (.int u0), .val (.int u1), .val .null] []))
  refine own_st (fun _ k => XS.iloadN X0.here hx rfl (hb hby d6_0) rfl k) ?_
  show own_Go _ _ _ _ (s₁.setTop (mkF m 1 #[.val (.int u0), .val (.int u1), .val .null] [(.int u0)]))
  refine own_st (fun _ k => XS.ifNo X0.here hx rfl (hb hby d6_1) rfl ((if0 _ _).trans (flt (hj0)).1) k) ?_
  show own_Go _ _ _ _ (s₁.setTop (mkF m 4 #[.val (.int u0), .val (.int u1), .val .null] []))
  refine own_st (fun _ k => XS.iloadN X0.here hx rfl (hb hby d6_4) rfl k) ?_
  show own_Go _ _ _ _ (s₁.setTop (mkF m 5 #[.val (.int u0), .val (.int u1), .val .null] [(.int u0)]))
  refine own_st (fun _ k => XS.iloadN X0.here hx rfl (hb hby d6_5) rfl k) ?_
  show own_Go _ _ _ _ (s₁.setTop (mkF m 6 #[.val (.int u0), .val (.int u1), .val .null] [(.int u1), (.int u0)]))
  refine own_st (fun _ k => XS.icmpYes X0.here hx rfl (pc0 := 6) (pc' := 16) rfl (hb hby d6_6) rfl (tlt (hj1)).1 (by decide) (by decide) k) ?_
  show own_Go _ _ _ _ (s₁.setTop (mkF m 16 #[.val (.int u0), .val (.int u1), .val .null] []))
  refine own_st (fun _ k => XS.iloadN X0.here hx rfl (hb hby d6_16) rfl k) ?_
  show own_Go _ _ _ _ (s₁.setTop (mkF m 17 #[.val (.int u0), .val (.int u1), .val .null] [(.int u0)]))
  obtain ⟨fs, hr, hrun, hended, hW, hsame⟩ := X0.leave (v := some (.int u0)) (fun h => by rw [Bd.returns] at h; cases h)
  refine own_out (own_retI X0 hx Bd.returns (hb hby d6_17) hr) ⟨hrun, hended, _, _, rfl, ?_, ⟨_, rfl⟩, hW, hsame.mono (by decide) (by decide)⟩
  show Q6n Z u0 u1 h0 n0 _ s₁.heap _
  exact ⟨rfl, N0, e0⟩
def Q6r (Z : State) (u0 : Int32) (u1 : Int32) (fa : Addr) (h0 : Heap) (n0 : Nat) (v : Option Value) (h : Heap) (L : List Loc) : Prop := v = some (.int u0) ∧ Fr n0 L ∧ h = h0
theorem ef_6r (m : MethodId) (x0 : Int32) (x1 : Int32) (x2 : Addr) : entryFrame m #[(.int x0), (.int x1), (.ref x2)] 3 = mkF m 0 #[.val (.int x0), .val (.int x1), .val (.ref x2)] [] := by first | (simp [entryFrame, mkF, argsToLocals, Value.category]; done) | rfl
set_option maxRecDepth 65536 in
set_option maxHeartbeats 40000000 in
theorem rm6r (l : Launch) (Z : State) (a0 : Array Value) (hw : ∀ d ∈ tables_1, d.before a0 Z = true) (ws : List Jvm.Cond) (u0 : Int32) (u1 : Int32) (fa : Addr) (h0 : Heap) (n0 : Nat) (Z0 : n0 ≤ h0.size) (hj0 : ¬ (u0 < (0 : Int32))) (hj1 : u0 < u1) :
    MetFree l (⟨"jdk/internal/util/Preconditions", "checkIndex", "(IILjava/util/function/BiFunction;)I"⟩ : MethodName) (head1 (Jvm.Cond.code (⟨"jdk/internal/util/Preconditions", "checkIndex", "(IILjava/util/function/BiFunction;)I"⟩ : MethodName) jdk_41_method_11_code 3 (some .int) :: ws) ({ frames := 0, cells := 0, slots := 0, locals := 0 } : Room)) (fun a U => a = #[(.int u0), (.int u1), (.ref fa)] ∧ Z.Warmed39 U.vm ∧ U.heap = h0) (fun _ _ _ _ _ => True) (fun _ U o U' => ∃ v L, o = .returned v ∧ Q6r Z u0 u1 fa h0 n0 v U'.heap L ∧ FrameEnd U o U' L ({ frames := 0, cells := 0, slots := 0, locals := 0 } : Room).cells ({ frames := 0, cells := 0, slots := 0, locals := 0 } : Room).slots) := by
  refine MetFree.of_bodySF (plainFor_of_name own_pn1) hisR ?_
  intro p e s m args below meth c s₁ Bd hml0 hP hK
  obtain ⟨rfl, hZ, hh⟩ := hP
  have hx := Bd.exec
  have hby := Bd.bytes
  have hml : c.maxLocals = 3 := hml0
  have hown : s.vm.findClass "jdk/internal/util/Preconditions" = some m.cls := findClass_of_methodNamed Bd.named
  have hnm := (name_of_methodNamed Bd.named Bd.method).1
  have X0 : Stand p l e ({ frames := 0, cells := 0, slots := 0, locals := 0 } : Room) s m #[(.int u0), (.int u1), (.ref fa)] below meth c s₁ [] 0 0 := Stand.of_body Bd
  have e0 : s₁.heap = h0 := by rw [← hh, Bd.state]; rfl
  have N0 := Fr.nil n0
  refine own_in ?_
  refine own_st (fun _ k => castTop (ef_6r m u0 u1 fa) k) ?_
  have K0 : Keep h0 h0 [] := Keep.refl h0 []
  show own_Go _ _ _ _ (s₁.setTop (mkF m 0 #[.val (.int u0), .val (.int u1), .val (.ref fa)] []))
  refine own_st (fun _ k => XS.iloadN X0.here hx rfl (hb hby d6_0) rfl k) ?_
  show own_Go _ _ _ _ (s₁.setTop (mkF m 1 #[.val (.int u0), .val (.int u1), .val (.ref fa)] [(.int u0)]))
  refine own_st (fun _ k => XS.ifNo X0.here hx rfl (hb hby d6_1) rfl ((if0 _ _).trans (flt (hj0)).1) k) ?_
  show own_Go _ _ _ _ (s₁.setTop (mkF m 4 #[.val (.int u0), .val (.int u1), .val (.ref fa)] []))
  refine own_st (fun _ k => XS.iloadN X0.here hx rfl (hb hby d6_4) rfl k) ?_
  show own_Go _ _ _ _ (s₁.setTop (mkF m 5 #[.val (.int u0), .val (.int u1), .val (.ref fa)] [(.int u0)]))
  refine own_st (fun _ k => XS.iloadN X0.here hx rfl (hb hby d6_5) rfl k) ?_
  show own_Go _ _ _ _ (s₁.setTop (mkF m 6 #[.val (.int u0), .val (.int u1), .val (.ref fa)] [(.int u1), (.int u0)]))
  refine own_st (fun _ k => XS.icmpYes X0.here hx rfl (pc0 := 6) (pc' := 16) rfl (hb hby d6_6) rfl (tlt (hj1)).1 (by decide) (by decide) k) ?_
  show own_Go _ _ _ _ (s₁.setTop (mkF m 16 #[.val (.int u0), .val (.int u1), .val (.ref fa)] []))
  refine own_st (fun _ k => XS.iloadN X0.here hx rfl (hb hby d6_16) rfl k) ?_
  show own_Go _ _ _ _ (s₁.setTop (mkF m 17 #[.val (.int u0), .val (.int u1), .val (.ref fa)] [(.int u0)]))
  obtain ⟨fs, hr, hrun, hended, hW, hsame⟩ := X0.leave (v := some (.int u0)) (fun h => by rw [Bd.returns] at h; cases h)
  refine own_out (own_retI X0 hx Bd.returns (hb hby d6_17) hr) ⟨hrun, hended, _, _, rfl, ?_, ⟨_, rfl⟩, hW, hsame.mono (by decide) (by decide)⟩
  show Q6r Z u0 u1 fa h0 n0 _ s₁.heap _
  exact ⟨rfl, N0, e0⟩
theorem d5_0 : decode jdk_42_method_155_code 0 = .ok (.iload_n 0, 1) := by decide +kernel
theorem d5_1 : decode jdk_42_method_155_code 1 = .ok (.iload_n 1, 1) := by decide +kernel
theorem d5_2 : decode jdk_42_method_155_code 2 = .ok (.getstatic 1053, 3) := by decide +kernel
theorem d5_5 : decode jdk_42_method_155_code 5 = .ok (.invokestatic 1059, 3) := by decide +kernel
theorem d5_8 : decode jdk_42_method_155_code 8 = .ok (.pop, 1) := by decide +kernel
theorem d5_9 : decode jdk_42_method_155_code 9 = .ok (.return_, 1) := by decide +kernel
theorem own_pd2 : parseMethodDescriptor "(II)V" = some ⟨[.int, .int], none⟩ := by decide +kernel
def Q5 (Z : State) (u0 : Int32) (u1 : Int32) (fv : Value) (h0 : Heap) (n0 : Nat) (v : Option Value) (h : Heap) (L : List Loc) : Prop := v = none ∧ Fr n0 L ∧ h = h0
theorem ef_5 (m : MethodId) (x0 : Int32) (x1 : Int32) : entryFrame m #[(.int x0), (.int x1)] 2 = mkF m 0 #[.val (.int x0), .val (.int x1)] [] := by first | (simp [entryFrame, mkF, argsToLocals, Value.category]; done) | rfl
set_option maxRecDepth 65536 in
set_option maxHeartbeats 40000000 in
theorem rm5 (l : Launch) (Z : State) (a0 : Array Value) (hw : ∀ d ∈ tables_1, d.before a0 Z = true) (ws : List Jvm.Cond) (u0 : Int32) (u1 : Int32) (fv : Value) (h0 : Heap) (n0 : Nat) (Z0 : n0 ≤ h0.size) (S3 : Sta Z h0 "jdk/internal/util/Preconditions" "SIOOBE_FORMATTER" "Ljava/util/function/BiFunction;" fv) (rG : fv.isRef = true) (hj0 : ¬ (u0 < (0 : Int32))) (hj1 : u0 < u1) :
    MetFree l (⟨"java/lang/String", "checkIndex", "(II)V"⟩ : MethodName) (head1 (Jvm.Cond.code (⟨"java/lang/String", "checkIndex", "(II)V"⟩ : MethodName) jdk_42_method_155_code 2 none :: ws) ({ frames := 1, cells := 0, slots := 0, locals := 20 } : Room)) (fun a U => a = #[(.int u0), (.int u1)] ∧ Z.Warmed39 U.vm ∧ U.heap = h0) (fun _ _ _ _ _ => True) (fun _ U o U' => ∃ v L, o = .returned v ∧ Q5 Z u0 u1 fv h0 n0 v U'.heap L ∧ FrameEnd U o U' L ({ frames := 1, cells := 0, slots := 0, locals := 20 } : Room).cells ({ frames := 1, cells := 0, slots := 0, locals := 20 } : Room).slots) := by
  refine MetFree.of_bodySF (plainFor_of_name own_pn0) hisR ?_
  intro p e s m args below meth c s₁ Bd hml0 hP hK
  obtain ⟨rfl, hZ, hh⟩ := hP
  have hx := Bd.exec
  have hby := Bd.bytes
  have hml : c.maxLocals = 2 := hml0
  have hown : s.vm.findClass "java/lang/String" = some m.cls := findClass_of_methodNamed Bd.named
  have hnm := (name_of_methodNamed Bd.named Bd.method).1
  have X0 : Stand p l e ({ frames := 1, cells := 0, slots := 0, locals := 20 } : Room) s m #[(.int u0), (.int u1)] below meth c s₁ [] 0 0 := Stand.of_body Bd
  have e0 : s₁.heap = h0 := by rw [← hh, Bd.state]; rfl
  have N0 := Fr.nil n0
  refine own_in ?_
  refine own_st (fun _ k => castTop (ef_5 m u0 u1) k) ?_
  have K0 : Keep h0 h0 [] := Keep.refl h0 []
  show own_Go _ _ _ _ (s₁.setTop (mkF m 0 #[.val (.int u0), .val (.int u1)] []))
  refine own_st (fun _ k => XS.iloadN X0.here hx rfl (hb hby d5_0) rfl k) ?_
  show own_Go _ _ _ _ (s₁.setTop (mkF m 1 #[.val (.int u0), .val (.int u1)] [(.int u0)]))
  refine own_st (fun _ k => XS.iloadN X0.here hx rfl (hb hby d5_1) rfl k) ?_
  show own_Go _ _ _ _ (s₁.setTop (mkF m 2 #[.val (.int u0), .val (.int u1)] [(.int u1), (.int u0)]))
  obtain ⟨T3, X3, e3, st3⟩ := getS2 X0 hx hZ hown (host := "") (Or.inl (hw _ (List.mem_of_getElem? (i := 32) rfl))) Via.refl e0 S3 (g := (mkF m 2 #[.val (.int u0), .val (.int u1)] [(.int u1), (.int u0)])) rfl (hb hby d5_2)
  refine own_st st3 ?_
  show own_Go _ _ _ _ (T3.setTop (mkF m 5 #[.val (.int u0), .val (.int u1)] [fv, (.int u1), (.int u0)]))
  rcases ref_cases rG with hfv | ⟨fa, hfv⟩
  · skip
    refine own_cast (congrArg (fun zz => T3.setTop (mkF m 5 #[.val (.int u0), .val (.int u1)] [zz, (.int u1), (.int u0)])) hfv) ?_
    show own_Go _ _ _ _ (T3.setTop (mkF m 5 #[.val (.int u0), .val (.int u1)] [.null, (.int u1), (.int u0)]))
    obtain ⟨_, _, ⟨T4, L4, k4, n4⟩, -, X4, ⟨Lc4, hQ4, l4, y4, z4⟩, st4⟩ := Jvm.LawKit.callS X3 hx (y := (⟨"jdk/internal/util/Preconditions", "checkIndex", "(IILjava/util/function/BiFunction;)I"⟩ : MethodName)) hown (mvT hZ (hw _ (List.mem_of_getElem? (i := 34) rfl))) (mvT hZ (hw _ (List.mem_of_getElem? (i := 35) rfl))) (mvT hZ (hw _ (List.mem_of_getElem? (i := 33) rfl))) (mvT hZ (hw _ (List.mem_of_getElem? (i := 36) rfl))) (by decide) (backOf (W := 0) (rm6n l Z a0 hw [] u0 u1  h0 n0 Z0 hj0 hj1) hZ (hw _ (List.mem_of_getElem? (i := 36) rfl)) (hw _ (List.mem_of_getElem? (i := 33) rfl)) (by decide) (by decide)) (g := (mkF m 5 #[.val (.int u0), .val (.int u1)] [.null, (.int u1), (.int u0)])) rfl (by rw [hml]; rfl) (argsL := [(.int u0), (.int u1), .null]) (rest := []) (lenOf own_pd1 rfl) rfl (by show 2 * 0 + _ ≤ _; exact Nat.le_of_eq rfl) (hb hby d5_5) (fun _ _ => ⟨rfl, e3, (by decide : 0 + 0 ≤ _), (by decide : 0 + 0 ≤ _)⟩)
    dsimp only [Pt.U, Pt.locs, Pt.cells, Pt.slots] at X4 l4 y4 z4 st4 hQ4
    rw [l4, y4, z4] at X4
    obtain ⟨rfl, Nq4, eq4⟩ := hQ4
    have N4 := Fr.app N0 Nq4
    refine own_st st4 ?_
    show own_Go _ _ _ _ (T4.setTop (mkF m 8 #[.val (.int u0), .val (.int u1)] [(.int u0)]))
    refine own_st (fun _ k => XS.pop X4.here hx rfl (hb hby d5_8) rfl rfl k) ?_
    show own_Go _ _ _ _ (T4.setTop (mkF m 9 #[.val (.int u0), .val (.int u1)] []))
    obtain ⟨fs, hr, hrun, hended, hW, hsame⟩ := X4.leave (v := none) (fun _ => rfl)
    refine own_out (X4.returnOut hx Bd.returns (hb hby d5_9) hr) ⟨hrun, hended, _, _, rfl, ?_, ⟨_, rfl⟩, hW, hsame.mono (by decide) (by decide)⟩
    show Q5 Z u0 u1 fv h0 n0 _ T4.heap _
    exact ⟨rfl, N4, eq4⟩
  · skip
    refine own_cast (congrArg (fun zz => T3.setTop (mkF m 5 #[.val (.int u0), .val (.int u1)] [zz, (.int u1), (.int u0)])) hfv) ?_
    show own_Go _ _ _ _ (T3.setTop (mkF m 5 #[.val (.int u0), .val (.int u1)] [(.ref fa), (.int u1), (.int u0)]))
    obtain ⟨_, _, ⟨T5, L5, k5, n5⟩, -, X5, ⟨Lc5, hQ5, l5, y5, z5⟩, st5⟩ := Jvm.LawKit.callS X3 hx (y := (⟨"jdk/internal/util/Preconditions", "checkIndex", "(IILjava/util/function/BiFunction;)I"⟩ : MethodName)) hown (mvT hZ (hw _ (List.mem_of_getElem? (i := 34) rfl))) (mvT hZ (hw _ (List.mem_of_getElem? (i := 35) rfl))) (mvT hZ (hw _ (List.mem_of_getElem? (i := 33) rfl))) (mvT hZ (hw _ (List.mem_of_getElem? (i := 36) rfl))) (by decide) (backOf (W := 0) (rm6r l Z a0 hw [] u0 u1 fa h0 n0 Z0 hj0 hj1) hZ (hw _ (List.mem_of_getElem? (i := 36) rfl)) (hw _ (List.mem_of_getElem? (i := 33) rfl)) (by decide) (by decide)) (g := (mkF m 5 #[.val (.int u0), .val (.int u1)] [(.ref fa), (.int u1), (.int u0)])) rfl (by rw [hml]; rfl) (argsL := [(.int u0), (.int u1), (.ref fa)]) (rest := []) (lenOf own_pd1 rfl) rfl (by show 2 * 0 + _ ≤ _; exact Nat.le_of_eq rfl) (hb hby d5_5) (fun _ _ => ⟨rfl, e3, (by decide : 0 + 0 ≤ _), (by decide : 0 + 0 ≤ _)⟩)
    dsimp only [Pt.U, Pt.locs, Pt.cells, Pt.slots] at X5 l5 y5 z5 st5 hQ5
    rw [l5, y5, z5] at X5
    obtain ⟨rfl, Nq5, eq5⟩ := hQ5
    have N5 := Fr.app N0 Nq5
    refine own_st st5 ?_
    show own_Go _ _ _ _ (T5.setTop (mkF m 8 #[.val (.int u0), .val (.int u1)] [(.int u0)]))
    refine own_st (fun _ k => XS.pop X5.here hx rfl (hb hby d5_8) rfl rfl k) ?_
    show own_Go _ _ _ _ (T5.setTop (mkF m 9 #[.val (.int u0), .val (.int u1)] []))
    obtain ⟨fs, hr, hrun, hended, hW, hsame⟩ := X5.leave (v := none) (fun _ => rfl)
    refine own_out (X5.returnOut hx Bd.returns (hb hby d5_9) hr) ⟨hrun, hended, _, _, rfl, ?_, ⟨_, rfl⟩, hW, hsame.mono (by decide) (by decide)⟩
    show Q5 Z u0 u1 fv h0 n0 _ T5.heap _
    exact ⟨rfl, N5, eq5⟩
theorem d4_0 : decode jdk_43_method_2_code 0 = .ok (.iload_n 1, 1) := by decide +kernel
theorem d4_1 : decode jdk_43_method_2_code 1 = .ok (.aload_n 0, 1) := by decide +kernel
theorem d4_2 : decode jdk_43_method_2_code 2 = .ok (.arraylength, 1) := by decide +kernel
theorem d4_3 : decode jdk_43_method_2_code 3 = .ok (.invokestatic 9, 3) := by decide +kernel
theorem d4_6 : decode jdk_43_method_2_code 6 = .ok (.aload_n 0, 1) := by decide +kernel
theorem d4_7 : decode jdk_43_method_2_code 7 = .ok (.iload_n 1, 1) := by decide +kernel
theorem d4_8 : decode jdk_43_method_2_code 8 = .ok (.baload, 1) := by decide +kernel
theorem d4_9 : decode jdk_43_method_2_code 9 = .ok (.sipush 255, 3) := by decide +kernel
theorem d4_12 : decode jdk_43_method_2_code 12 = .ok (.iand, 1) := by decide +kernel
theorem d4_13 : decode jdk_43_method_2_code 13 = .ok (.i2c, 1) := by decide +kernel
theorem d4_14 : decode jdk_43_method_2_code 14 = .ok (.ireturn, 1) := by decide +kernel
theorem own_pd3 : parseMethodDescriptor "([BI)C" = some ⟨[(.array .byte), .int], some .char⟩ := by decide +kernel
theorem own_pn2 : plainName "java/lang/StringLatin1" = true := by first | (simp [plainName, overriddenIn]; done) | decide +kernel
def Q4 (Z : State) (ar : Addr) (kk : ClassId) (bs : List Int32) (u1 : Int32) (fv : Value) (h0 : Heap) (n0 : Nat) (v : Option Value) (h : Heap) (L : List Loc) : Prop := v = some (.int (nar .char (((bs.getD u1.toNatClampNeg 0) &&& (255 : Int32)).toUInt32.toUInt16.toUInt32.toInt32))) ∧ Fr n0 L ∧ h = h0
theorem ef_4 (m : MethodId) (x0 : Addr) (x1 : Int32) : entryFrame m #[(.ref x0), (.int x1)] 2 = mkF m 0 #[.val (.ref x0), .val (.int x1)] [] := by first | (simp [entryFrame, mkF, argsToLocals, Value.category]; done) | rfl
set_option maxRecDepth 65536 in
set_option maxHeartbeats 40000000 in
theorem rm4 (l : Launch) (Z : State) (a0 : Array Value) (hw : ∀ d ∈ tables_1, d.before a0 Z = true) (ws : List Jvm.Cond) (ar : Addr) (kk : ClassId) (bs : List Int32) (u1 : Int32) (fv : Value) (h0 : Heap) (n0 : Nat) (Z0 : n0 ≤ h0.size) (S3 : Sta Z h0 "jdk/internal/util/Preconditions" "SIOOBE_FORMATTER" "Ljava/util/function/BiFunction;" fv) (rG : fv.isRef = true) (V_ar : Arv Z h0 ar kk .byte (16 : Int32) (bs.map Value.int) (.int (0 : Int32))) (hj0 : ¬ (u1 < (0 : Int32))) (hj1 : u1 < (16 : Int32)) :
    MetFree l (⟨"java/lang/StringLatin1", "charAt", "([BI)C"⟩ : MethodName) (head1 (Jvm.Cond.code (⟨"java/lang/StringLatin1", "charAt", "([BI)C"⟩ : MethodName) jdk_43_method_2_code 2 (some .char) :: ws) ({ frames := 2, cells := 0, slots := 0, locals := 45 } : Room)) (fun a U => a = #[(.ref ar), (.int u1)] ∧ Z.Warmed39 U.vm ∧ U.heap = h0) (fun _ _ _ _ _ => True) (fun _ U o U' => ∃ v L, o = .returned v ∧ Q4 Z ar kk bs u1 fv h0 n0 v U'.heap L ∧ FrameEnd U o U' L ({ frames := 2, cells := 0, slots := 0, locals := 45 } : Room).cells ({ frames := 2, cells := 0, slots := 0, locals := 45 } : Room).slots) := by
  refine MetFree.of_bodySF (plainFor_of_name own_pn2) hisR ?_
  intro p e s m args below meth c s₁ Bd hml0 hP hK
  obtain ⟨rfl, hZ, hh⟩ := hP
  have hx := Bd.exec
  have hby := Bd.bytes
  have hml : c.maxLocals = 2 := hml0
  have hown : s.vm.findClass "java/lang/StringLatin1" = some m.cls := findClass_of_methodNamed Bd.named
  have hnm := (name_of_methodNamed Bd.named Bd.method).1
  have X0 : Stand p l e ({ frames := 2, cells := 0, slots := 0, locals := 45 } : Room) s m #[(.ref ar), (.int u1)] below meth c s₁ [] 0 0 := Stand.of_body Bd
  have e0 : s₁.heap = h0 := by rw [← hh, Bd.state]; rfl
  have N0 := Fr.nil n0
  refine own_in ?_
  refine own_st (fun _ k => castTop (ef_4 m ar u1) k) ?_
  have K0 : Keep h0 h0 [] := Keep.refl h0 []
  show own_Go _ _ _ _ (s₁.setTop (mkF m 0 #[.val (.ref ar), .val (.int u1)] []))
  refine own_st (fun _ k => XS.iloadN X0.here hx rfl (hb hby d4_0) rfl k) ?_
  show own_Go _ _ _ _ (s₁.setTop (mkF m 1 #[.val (.ref ar), .val (.int u1)] [(.int u1)]))
  refine own_st (fun _ k => XS.aloadN X0.here hx rfl (hb hby d4_1) rfl rfl k) ?_
  show own_Go _ _ _ _ (s₁.setTop (mkF m 2 #[.val (.ref ar), .val (.int u1)] [(.ref ar), (.int u1)]))
  obtain ⟨cl6, Ar6, -, Sz6, Nn6, -, -⟩ := id V_ar
  refine own_st (X0.arraylength hx (by rw [e0]; exact Ar6.1) (State.isArrayOf_alike hZ.alike Ar6.2.1) (g := (mkF m 2 #[.val (.ref ar), .val (.int u1)] [(.ref ar), (.int u1)])) rfl rfl (hb hby d4_2)) ?_
  rw [len_of Sz6 Nn6]
  show own_Go _ _ _ _ (s₁.setTop (mkF m 3 #[.val (.ref ar), .val (.int u1)] [(.int (16 : Int32)), (.int u1)]))
  obtain ⟨_, _, ⟨T7, L7, k7, n7⟩, -, X7, ⟨Lc7, hQ7, l7, y7, z7⟩, st7⟩ := Jvm.LawKit.callS X0 hx (y := (⟨"java/lang/String", "checkIndex", "(II)V"⟩ : MethodName)) hown (mvT hZ (hw _ (List.mem_of_getElem? (i := 29) rfl))) (mvT hZ (hw _ (List.mem_of_getElem? (i := 30) rfl))) (mvT hZ (hw _ (List.mem_of_getElem? (i := 5) rfl))) (mvT hZ (hw _ (List.mem_of_getElem? (i := 31) rfl))) (by decide) (backOf (W := 0) (rm5 l Z a0 hw [] u1 (16 : Int32) fv h0 n0 Z0 S3 rG hj0 hj1) hZ (hw _ (List.mem_of_getElem? (i := 31) rfl)) (hw _ (List.mem_of_getElem? (i := 5) rfl)) (by decide) (by decide)) (g := (mkF m 3 #[.val (.ref ar), .val (.int u1)] [(.int (16 : Int32)), (.int u1)])) rfl (by rw [hml]; rfl) (argsL := [(.int u1), (.int (16 : Int32))]) (rest := []) (lenOf own_pd2 rfl) rfl (by show 2 * 0 + _ ≤ _; exact Nat.le_of_eq rfl) (hb hby d4_3) (fun _ _ => ⟨rfl, e0, (by decide : 0 + 0 ≤ _), (by decide : 0 + 0 ≤ _)⟩)
  dsimp only [Pt.U, Pt.locs, Pt.cells, Pt.slots] at X7 l7 y7 z7 st7 hQ7
  rw [l7, y7, z7] at X7
  obtain ⟨rfl, Nq7, eq7⟩ := hQ7
  have N7 := Fr.app N0 Nq7
  refine own_st st7 ?_
  show own_Go _ _ _ _ (T7.setTop (mkF m 6 #[.val (.ref ar), .val (.int u1)] []))
  refine own_st (fun _ k => XS.aloadN X7.here hx rfl (hb hby d4_6) rfl rfl k) ?_
  show own_Go _ _ _ _ (T7.setTop (mkF m 7 #[.val (.ref ar), .val (.int u1)] [(.ref ar)]))
  refine own_st (fun _ k => XS.iloadN X7.here hx rfl (hb hby d4_7) rfl k) ?_
  show own_Go _ _ _ _ (T7.setTop (mkF m 8 #[.val (.ref ar), .val (.int u1)] [(.int u1), (.ref ar)]))
  obtain ⟨cl8, Ar8, -, Sz8, Nn8, Hs8, -⟩ := id V_ar
  have hin8 : ¬ (u1 < 0 ∨ cl8.slots.size ≤ (u1).toNatClampNeg) := inb_of Sz8 ⟨hj0, hj1⟩
  have hat8 : cl8.slots[(u1).toNatClampNeg]? = some (.int (bs.getD u1.toNatClampNeg 0)) := Hs8.at hin8 (own_getD bs _)
  refine own_st (X7.baloadBytes hx (j := u1) (v := (.int (bs.getD u1.toNatClampNeg 0))) (by rw [eq7]; exact Ar8.1) (State.isArrayOf_alike hZ.alike Ar8.2.1) Ar8.2.2 hin8 hat8 (g := (mkF m 8 #[.val (.ref ar), .val (.int u1)] [(.int u1), (.ref ar)])) rfl rfl (hb hby d4_8)) ?_
  show own_Go _ _ _ _ (T7.setTop (mkF m 9 #[.val (.ref ar), .val (.int u1)] [(.int (bs.getD u1.toNatClampNeg 0))]))
  refine own_st (fun _ k => XS.sipush X7.here hx rfl (hb hby d4_9) k) ?_
  show own_Go _ _ _ _ (T7.setTop (mkF m 12 #[.val (.ref ar), .val (.int u1)] [(.int (255 : Int32)), (.int (bs.getD u1.toNatClampNeg 0))]))
  refine own_st (fun _ k => XS.iand X7.here hx rfl (hb hby d4_12) rfl k) ?_
  show own_Go _ _ _ _ (T7.setTop (mkF m 13 #[.val (.ref ar), .val (.int u1)] [(.int ((bs.getD u1.toNatClampNeg 0) &&& (255 : Int32)))]))
  refine own_st (fun _ k => XS.i2c X7.here hx rfl (hb hby d4_13) rfl k) ?_
  show own_Go _ _ _ _ (T7.setTop (mkF m 14 #[.val (.ref ar), .val (.int u1)] [(.int (((bs.getD u1.toNatClampNeg 0) &&& (255 : Int32)).toUInt32.toUInt16.toUInt32.toInt32))]))
  obtain ⟨fs, hr, hrun, hended, hW, hsame⟩ := X7.leave (v := some (.int (nar .char (((bs.getD u1.toNatClampNeg 0) &&& (255 : Int32)).toUInt32.toUInt16.toUInt32.toInt32)))) (fun h => by rw [Bd.returns] at h; cases h)
  refine own_out (retN X7 hx (t := .char) Bd.returns (by simp) (hb hby d4_14) hr) ⟨hrun, hended, _, _, rfl, ?_, ⟨_, rfl⟩, hW, hsame.mono (by decide) (by decide)⟩
  show Q4 Z ar kk bs u1 fv h0 n0 _ T7.heap _
  exact ⟨rfl, N7, eq7⟩
theorem d2_0 : decode jdk_42_method_56_code 0 = .ok (.aload_n 0, 1) := by decide +kernel
theorem d2_1 : decode jdk_42_method_56_code 1 = .ok (.invokevirtual 492, 3) := by decide +kernel
theorem d2_4 : decode jdk_42_method_56_code 4 = .ok (.ifCond .eq 12, 3) := by decide +kernel
theorem d2_7 : decode jdk_42_method_56_code 7 = .ok (.aload_n 0, 1) := by decide +kernel
theorem d2_8 : decode jdk_42_method_56_code 8 = .ok (.getfield 9, 3) := by decide +kernel
theorem d2_11 : decode jdk_42_method_56_code 11 = .ok (.iload_n 1, 1) := by decide +kernel
theorem d2_12 : decode jdk_42_method_56_code 12 = .ok (.invokestatic 495, 3) := by decide +kernel
theorem d2_15 : decode jdk_42_method_56_code 15 = .ok (.ireturn, 1) := by decide +kernel
theorem d2_16 : decode jdk_42_method_56_code 16 = .ok (.aload_n 0, 1) := by decide +kernel
theorem d2_17 : decode jdk_42_method_56_code 17 = .ok (.getfield 9, 3) := by decide +kernel
theorem d2_20 : decode jdk_42_method_56_code 20 = .ok (.iload_n 1, 1) := by decide +kernel
theorem d2_21 : decode jdk_42_method_56_code 21 = .ok (.invokestatic 498, 3) := by decide +kernel
theorem d2_24 : decode jdk_42_method_56_code 24 = .ok (.ireturn, 1) := by decide +kernel
theorem own_pd4 : parseMethodDescriptor "(I)C" = some ⟨[.int], some .char⟩ := by decide +kernel
def Q2 (Z : State) (ob : Addr) (ar : Addr) (kk : ClassId) (bs : List Int32) (u1 : Int32) (fv : Value) (G1 : Int32) (h0 : Heap) (n0 : Nat) (v : Option Value) (h : Heap) (L : List Loc) : Prop := v = some (.int (own_cat bs u1)) ∧ Fr n0 L ∧ h = h0
theorem ef_2 (m : MethodId) (x0 : Addr) (x1 : Int32) : entryFrame m #[(.ref x0), (.int x1)] 2 = mkF m 0 #[.val (.ref x0), .val (.int x1)] [] := by first | (simp [entryFrame, mkF, argsToLocals, Value.category]; done) | rfl
set_option maxRecDepth 65536 in
set_option maxHeartbeats 40000000 in
theorem rm2 (l : Launch) (Z : State) (a0 : Array Value) (hw : ∀ d ∈ tables_1, d.before a0 Z = true) (ws : List Jvm.Cond) (ob : Addr) (ar : Addr) (kk : ClassId) (bs : List Int32) (u1 : Int32) (fv : Value) (G1 : Int32) (h0 : Heap) (n0 : Nat) (Z0 : n0 ≤ h0.size) (S1 : Sta Z h0 "java/lang/String" "COMPACT_STRINGS" "Z" (.int G1)) (hG : ¬ (G1 = (0 : Int32))) (S3 : Sta Z h0 "jdk/internal/util/Preconditions" "SIOOBE_FORMATTER" "Ljava/util/function/BiFunction;" fv) (rG : fv.isRef = true) (E_ob : Exa Z h0 ob "java/lang/String") (F_coder : Fld Z h0 ob "java/lang/String" "coder" "B" (.int (0 : Int32))) (F_value : Fld Z h0 ob "java/lang/String" "value" "[B" (.ref ar)) (V_ar : Arv Z h0 ar kk .byte (16 : Int32) (bs.map Value.int) (.int (0 : Int32))) (hj0 : ¬ (u1 < (0 : Int32))) (hj1 : u1 < (16 : Int32)) :
    MetFree l (⟨"java/lang/String", "charAt", "(I)C"⟩ : MethodName) (head1 (Jvm.Cond.code (⟨"java/lang/String", "charAt", "(I)C"⟩ : MethodName) jdk_42_method_56_code 2 (some .char) :: ws) ({ frames := 3, cells := 0, slots := 0, locals := 70 } : Room)) (fun a U => a = #[(.ref ob), (.int u1)] ∧ Z.Warmed39 U.vm ∧ U.heap = h0) (fun _ _ _ _ _ => True) (fun _ U o U' => ∃ v L, o = .returned v ∧ Q2 Z ob ar kk bs u1 fv G1 h0 n0 v U'.heap L ∧ FrameEnd U o U' L ({ frames := 3, cells := 0, slots := 0, locals := 70 } : Room).cells ({ frames := 3, cells := 0, slots := 0, locals := 70 } : Room).slots) := by
  refine MetFree.of_bodySF (plainFor_of_name own_pn0) hisR ?_
  intro p e s m args below meth c s₁ Bd hml0 hP hK
  obtain ⟨rfl, hZ, hh⟩ := hP
  have hx := Bd.exec
  have hby := Bd.bytes
  have hml : c.maxLocals = 2 := hml0
  have hown : s.vm.findClass "java/lang/String" = some m.cls := findClass_of_methodNamed Bd.named
  have hnm := (name_of_methodNamed Bd.named Bd.method).1
  have X0 : Stand p l e ({ frames := 3, cells := 0, slots := 0, locals := 70 } : Room) s m #[(.ref ob), (.int u1)] below meth c s₁ [] 0 0 := Stand.of_body Bd
  have e0 : s₁.heap = h0 := by rw [← hh, Bd.state]; rfl
  have N0 := Fr.nil n0
  refine own_in ?_
  refine own_st (fun _ k => castTop (ef_2 m ob u1) k) ?_
  have K0 : Keep h0 h0 [] := Keep.refl h0 []
  show own_Go _ _ _ _ (s₁.setTop (mkF m 0 #[.val (.ref ob), .val (.int u1)] []))
  refine own_st (fun _ k => XS.aloadN X0.here hx rfl (hb hby d2_0) rfl rfl k) ?_
  show own_Go _ _ _ _ (s₁.setTop (mkF m 1 #[.val (.ref ob), .val (.int u1)] [(.ref ob)]))
  obtain ⟨cq9, kq9, q9a, q9b, q9c⟩ := isOf hZ e0 E_ob
  obtain ⟨_, _, ⟨T9, L9, k9, n9⟩, -, X9, ⟨Lc9, hQ9, l9, y9, z9⟩, st9⟩ := X0.virtualBack hx (y := (⟨"java/lang/String", "isLatin1", "()Z"⟩ : MethodName)) (z := (⟨"java/lang/String", "isLatin1", "()Z"⟩ : MethodName)) hown (mvT hZ (hw _ (List.mem_of_getElem? (i := 17) rfl))) (mvT hZ (hw _ (List.mem_of_getElem? (i := 18) rfl))) (notFace_of_selects (args := #[]) (mvT hZ (hw _ (List.mem_of_getElem? (i := 20) rfl)))) (mvT hZ (hw _ (List.mem_of_getElem? (i := 20) rfl))) (mvT hZ (hw _ (List.mem_of_getElem? (i := 19) rfl))) (by decide) (backOf (W := 0) (rm3 l Z a0 hw [] ob G1 h0 n0 Z0 S1 hG F_coder) hZ (hw _ (List.mem_of_getElem? (i := 21) rfl)) (hw _ (List.mem_of_getElem? (i := 5) rfl)) (by decide) (by decide)) q9a q9c (g := (mkF m 1 #[.val (.ref ob), .val (.int u1)] [(.ref ob)])) rfl (by rw [hml]; rfl) (Steps.refl _) (argsL := []) (rest := []) (lenOf own_pd0 rfl) rfl (by show 2 * 0 + _ ≤ _; exact Nat.le_of_eq rfl) (hb hby d2_1) (fun _ _ => ⟨rfl, e0, (by decide : 0 + 0 ≤ _), (by decide : 0 + 0 ≤ _)⟩)
  dsimp only [Pt.U, Pt.locs, Pt.cells, Pt.slots] at X9 l9 y9 z9 st9 hQ9
  rw [l9, y9, z9] at X9
  obtain ⟨rfl, Nq9, eq9⟩ := hQ9
  have N9 := Fr.app N0 Nq9
  refine own_tr st9 ?_
  show own_Go _ _ _ _ (T9.setTop (mkF m 4 #[.val (.ref ob), .val (.int u1)] [(.int (1 : Int32))]))
  refine own_st (fun _ k => XS.ifNo X9.here hx rfl (hb hby d2_4) rfl ((if0 _ _).trans (feq (by decide : ¬ ((1 : Int32) = (0 : Int32)))).1) k) ?_
  show own_Go _ _ _ _ (T9.setTop (mkF m 7 #[.val (.ref ob), .val (.int u1)] []))
  refine own_st (fun _ k => XS.aloadN X9.here hx rfl (hb hby d2_7) rfl rfl k) ?_
  show own_Go _ _ _ _ (T9.setTop (mkF m 8 #[.val (.ref ob), .val (.int u1)] [(.ref ob)]))
  obtain ⟨T10, X10, e10, st10⟩ := getF X9 hx hZ hown (host := "") (Or.inl (hw _ (List.mem_of_getElem? (i := 24) rfl))) Via.refl eq9 F_value (g := (mkF m 8 #[.val (.ref ob), .val (.int u1)] [(.ref ob)])) rfl rfl (hb hby d2_8)
  refine own_st st10 ?_
  show own_Go _ _ _ _ (T10.setTop (mkF m 11 #[.val (.ref ob), .val (.int u1)] [(.ref ar)]))
  refine own_st (fun _ k => XS.iloadN X10.here hx rfl (hb hby d2_11) rfl k) ?_
  show own_Go _ _ _ _ (T10.setTop (mkF m 12 #[.val (.ref ob), .val (.int u1)] [(.int u1), (.ref ar)]))
  obtain ⟨_, _, ⟨T11, L11, k11, n11⟩, -, X11, ⟨Lc11, hQ11, l11, y11, z11⟩, st11⟩ := Jvm.LawKit.callS X10 hx (y := (⟨"java/lang/StringLatin1", "charAt", "([BI)C"⟩ : MethodName)) hown (mvT hZ (hw _ (List.mem_of_getElem? (i := 25) rfl))) (mvT hZ (hw _ (List.mem_of_getElem? (i := 26) rfl))) (mvT hZ (hw _ (List.mem_of_getElem? (i := 27) rfl))) (mvT hZ (hw _ (List.mem_of_getElem? (i := 28) rfl))) (by decide) (backOf (W := 0) (rm4 l Z a0 hw [] ar kk bs u1 fv h0 n0 Z0 S3 rG V_ar hj0 hj1) hZ (hw _ (List.mem_of_getElem? (i := 28) rfl)) (hw _ (List.mem_of_getElem? (i := 27) rfl)) (by decide) (by decide)) (g := (mkF m 12 #[.val (.ref ob), .val (.int u1)] [(.int u1), (.ref ar)])) rfl (by rw [hml]; rfl) (argsL := [(.ref ar), (.int u1)]) (rest := []) (lenOf own_pd3 rfl) rfl (by show 2 * 0 + _ ≤ _; exact Nat.le_of_eq rfl) (hb hby d2_12) (fun _ _ => ⟨rfl, e10, (by decide : 0 + 0 ≤ _), (by decide : 0 + 0 ≤ _)⟩)
  dsimp only [Pt.U, Pt.locs, Pt.cells, Pt.slots] at X11 l11 y11 z11 st11 hQ11
  rw [l11, y11, z11] at X11
  obtain ⟨rfl, Nq11, eq11⟩ := hQ11
  have N11 := Fr.app N9 Nq11
  refine own_st st11 ?_
  show own_Go _ _ _ _ (T11.setTop (mkF m 15 #[.val (.ref ob), .val (.int u1)] [(.int (nar .char (((bs.getD u1.toNatClampNeg 0) &&& (255 : Int32)).toUInt32.toUInt16.toUInt32.toInt32)))]))
  obtain ⟨fs, hr, hrun, hended, hW, hsame⟩ := X11.leave (v := some (.int (nar .char (nar .char (((bs.getD u1.toNatClampNeg 0) &&& (255 : Int32)).toUInt32.toUInt16.toUInt32.toInt32))))) (fun h => by rw [Bd.returns] at h; cases h)
  refine own_out (retN X11 hx (t := .char) Bd.returns (by simp) (hb hby d2_15) hr) ⟨hrun, hended, _, _, rfl, ?_, ⟨_, rfl⟩, hW, hsame.mono (by decide) (by decide)⟩
  show Q2 Z ob ar kk bs u1 fv G1 h0 n0 _ T11.heap _
  exact ⟨rfl, N11, eq11⟩
theorem own_smono {s : State} {vm : Vm} {n n' : Nat} (h : s.Since vm n) (hn : n ≤ n') : s.Since vm n' := ⟨h.1, fun j p a b => ⟨(h.2 j p a b).1, Nat.lt_of_lt_of_le (h.2 j p a b).2 hn⟩⟩
theorem own_atoms : ∀ d ∈ Bundle.stringAtoms, d ∈ tables_1 := by decide +kernel
def own_lo : List Int32 := [48, 49, 50, 51, 52, 53, 54, 55, 56, 57, 97, 98, 99, 100, 101, 102]
def own_up : List Int32 := [48, 49, 50, 51, 52, 53, 54, 55, 56, 57, 65, 66, 67, 68, 69, 70]
def own_hx (u0 : Int32) : Int32 := (if u0 < (48 : Int32) then (if u0 < (97 : Int32) then (if u0 < (65 : Int32) then (-1 : Int32) else (if (70 : Int32) < u0 then (-1 : Int32) else ((u0 - (65 : Int32)) + (10 : Int32)))) else (if (102 : Int32) < u0 then (if u0 < (65 : Int32) then (-1 : Int32) else (if (70 : Int32) < u0 then (-1 : Int32) else ((u0 - (65 : Int32)) + (10 : Int32)))) else ((u0 - (97 : Int32)) + (10 : Int32)))) else (if (57 : Int32) < u0 then (if u0 < (97 : Int32) then (if u0 < (65 : Int32) then (-1 : Int32) else (if (70 : Int32) < u0 then (-1 : Int32) else ((u0 - (65 : Int32)) + (10 : Int32)))) else (if (102 : Int32) < u0 then (if u0 < (65 : Int32) then (-1 : Int32) else (if (70 : Int32) < u0 then (-1 : Int32) else ((u0 - (65 : Int32)) + (10 : Int32)))) else ((u0 - (97 : Int32)) + (10 : Int32)))) else (u0 - (48 : Int32))))
theorem d8_0 : decode prog_39_method_8_code 0 = .ok (.iconst (-1), 1) := by decide +kernel
theorem d8_1 : decode prog_39_method_8_code 1 = .ok (.istore_n 1, 1) := by decide +kernel
theorem d8_2 : decode prog_39_method_8_code 2 = .ok (.iload_n 0, 1) := by decide +kernel
theorem d8_3 : decode prog_39_method_8_code 3 = .ok (.bipush 48, 2) := by decide +kernel
theorem d8_5 : decode prog_39_method_8_code 5 = .ok (.if_icmp .lt 17, 3) := by decide +kernel
theorem d8_8 : decode prog_39_method_8_code 8 = .ok (.iload_n 0, 1) := by decide +kernel
theorem d8_9 : decode prog_39_method_8_code 9 = .ok (.bipush 57, 2) := by decide +kernel
theorem d8_11 : decode prog_39_method_8_code 11 = .ok (.if_icmp .gt 11, 3) := by decide +kernel
theorem d8_14 : decode prog_39_method_8_code 14 = .ok (.iload_n 0, 1) := by decide +kernel
theorem d8_15 : decode prog_39_method_8_code 15 = .ok (.bipush 48, 2) := by decide +kernel
theorem d8_17 : decode prog_39_method_8_code 17 = .ok (.isub, 1) := by decide +kernel
theorem d8_18 : decode prog_39_method_8_code 18 = .ok (.istore_n 1, 1) := by decide +kernel
theorem d8_19 : decode prog_39_method_8_code 19 = .ok (.goto 46, 3) := by decide +kernel
theorem d8_22 : decode prog_39_method_8_code 22 = .ok (.iload_n 0, 1) := by decide +kernel
theorem d8_23 : decode prog_39_method_8_code 23 = .ok (.bipush 97, 2) := by decide +kernel
theorem d8_25 : decode prog_39_method_8_code 25 = .ok (.if_icmp .lt 20, 3) := by decide +kernel
theorem d8_28 : decode prog_39_method_8_code 28 = .ok (.iload_n 0, 1) := by decide +kernel
theorem d8_29 : decode prog_39_method_8_code 29 = .ok (.bipush 102, 2) := by decide +kernel
theorem d8_31 : decode prog_39_method_8_code 31 = .ok (.if_icmp .gt 14, 3) := by decide +kernel
theorem d8_34 : decode prog_39_method_8_code 34 = .ok (.iload_n 0, 1) := by decide +kernel
theorem d8_35 : decode prog_39_method_8_code 35 = .ok (.bipush 97, 2) := by decide +kernel
theorem d8_37 : decode prog_39_method_8_code 37 = .ok (.isub, 1) := by decide +kernel
theorem d8_38 : decode prog_39_method_8_code 38 = .ok (.bipush 10, 2) := by decide +kernel
theorem d8_40 : decode prog_39_method_8_code 40 = .ok (.iadd, 1) := by decide +kernel
theorem d8_41 : decode prog_39_method_8_code 41 = .ok (.istore_n 1, 1) := by decide +kernel
theorem d8_42 : decode prog_39_method_8_code 42 = .ok (.goto 23, 3) := by decide +kernel
theorem d8_45 : decode prog_39_method_8_code 45 = .ok (.iload_n 0, 1) := by decide +kernel
theorem d8_46 : decode prog_39_method_8_code 46 = .ok (.bipush 65, 2) := by decide +kernel
theorem d8_48 : decode prog_39_method_8_code 48 = .ok (.if_icmp .lt 17, 3) := by decide +kernel
theorem d8_51 : decode prog_39_method_8_code 51 = .ok (.iload_n 0, 1) := by decide +kernel
theorem d8_52 : decode prog_39_method_8_code 52 = .ok (.bipush 70, 2) := by decide +kernel
theorem d8_54 : decode prog_39_method_8_code 54 = .ok (.if_icmp .gt 11, 3) := by decide +kernel
theorem d8_57 : decode prog_39_method_8_code 57 = .ok (.iload_n 0, 1) := by decide +kernel
theorem d8_58 : decode prog_39_method_8_code 58 = .ok (.bipush 65, 2) := by decide +kernel
theorem d8_60 : decode prog_39_method_8_code 60 = .ok (.isub, 1) := by decide +kernel
theorem d8_61 : decode prog_39_method_8_code 61 = .ok (.bipush 10, 2) := by decide +kernel
theorem d8_63 : decode prog_39_method_8_code 63 = .ok (.iadd, 1) := by decide +kernel
theorem d8_64 : decode prog_39_method_8_code 64 = .ok (.istore_n 1, 1) := by decide +kernel
theorem d8_65 : decode prog_39_method_8_code 65 = .ok (.iload_n 1, 1) := by decide +kernel
theorem d8_66 : decode prog_39_method_8_code 66 = .ok (.ireturn, 1) := by decide +kernel
theorem own_pd5 : parseMethodDescriptor "(C)I" = some ⟨[.char], some .int⟩ := by decide +kernel
theorem own_pn3 : plainName "com/example/handler/handler/HttpSyntax" = true := by first | (simp [plainName, overriddenIn]; done) | decide +kernel
def Q8 (Z : State) (u0 : Int32) (h0 : Heap) (n0 : Nat) (v : Option Value) (h : Heap) (L : List Loc) : Prop := v = some (.int (own_hx u0)) ∧ Fr n0 L ∧ h = h0
theorem ef_8 (m : MethodId) (x0 : Int32) : entryFrame m #[(.int x0)] 2 = mkF m 0 #[.val (.int x0), .unset] [] := by first | (simp [entryFrame, mkF, argsToLocals, Value.category]; done) | rfl
set_option maxRecDepth 65536 in
set_option maxHeartbeats 40000000 in
theorem rm8 (l : Launch) (Z : State) (a0 : Array Value) (hw : ∀ d ∈ tables_1, d.before a0 Z = true) (ws : List Jvm.Cond) (u0 : Int32) (h0 : Heap) (n0 : Nat) (Z0 : n0 ≤ h0.size)  :
    MetFree l (⟨"com/example/handler/handler/HttpSyntax", "hexValue", "(C)I"⟩ : MethodName) (head1 (Jvm.Cond.code (⟨"com/example/handler/handler/HttpSyntax", "hexValue", "(C)I"⟩ : MethodName) prog_39_method_8_code 2 (some .int) :: ws) ({ frames := 0, cells := 0, slots := 0, locals := 0 } : Room)) (fun a U => a = #[(.int u0)] ∧ Z.Warmed39 U.vm ∧ U.heap = h0) (fun _ _ _ _ _ => True) (fun _ U o U' => ∃ v L, o = .returned v ∧ Q8 Z u0 h0 n0 v U'.heap L ∧ FrameEnd U o U' L ({ frames := 0, cells := 0, slots := 0, locals := 0 } : Room).cells ({ frames := 0, cells := 0, slots := 0, locals := 0 } : Room).slots) := by
  refine MetFree.of_bodySF (plainFor_of_name own_pn3) hisR ?_
  intro p e s m args below meth c s₁ Bd hml0 hP hK
  obtain ⟨rfl, hZ, hh⟩ := hP
  have hx := Bd.exec
  have hby := Bd.bytes
  have hml : c.maxLocals = 2 := hml0
  have hown : s.vm.findClass "com/example/handler/handler/HttpSyntax" = some m.cls := findClass_of_methodNamed Bd.named
  have hnm := (name_of_methodNamed Bd.named Bd.method).1
  have X0 : Stand p l e ({ frames := 0, cells := 0, slots := 0, locals := 0 } : Room) s m #[(.int u0)] below meth c s₁ [] 0 0 := Stand.of_body Bd
  have e0 : s₁.heap = h0 := by rw [← hh, Bd.state]; rfl
  have N0 := Fr.nil n0
  refine own_in ?_
  refine own_st (fun _ k => castTop (ef_8 m u0) k) ?_
  have K0 : Keep h0 h0 [] := Keep.refl h0 []
  show own_Go _ _ _ _ (s₁.setTop (mkF m 0 #[.val (.int u0), .unset] []))
  refine own_st (fun _ k => XS.iconst X0.here hx rfl (hb hby d8_0) k) ?_
  show own_Go _ _ _ _ (s₁.setTop (mkF m 1 #[.val (.int u0), .unset] [(.int (-1 : Int32))]))
  refine own_st (fun _ k => XS.istoreN X0.here hx rfl (hb hby d8_1) rfl (l' := #[.val (.int u0), .val (.int (-1 : Int32))]) rfl k) ?_
  show own_Go _ _ _ _ (s₁.setTop (mkF m 2 #[.val (.int u0), .val (.int (-1 : Int32))] []))
  refine own_st (fun _ k => XS.iloadN X0.here hx rfl (hb hby d8_2) rfl k) ?_
  show own_Go _ _ _ _ (s₁.setTop (mkF m 3 #[.val (.int u0), .val (.int (-1 : Int32))] [(.int u0)]))
  refine own_st (fun _ k => XS.bipush X0.here hx rfl (hb hby d8_3) k) ?_
  show own_Go _ _ _ _ (s₁.setTop (mkF m 5 #[.val (.int u0), .val (.int (-1 : Int32))] [(.int (48 : Int32)), (.int u0)]))
  by_cases hc12 : u0 < (48 : Int32)
  · skip
    refine own_st (fun _ k => XS.icmpYes X0.here hx rfl (pc0 := 5) (pc' := 22) rfl (hb hby d8_5) rfl (tlt hc12).1 (by decide) (by decide) k) ?_
    show own_Go _ _ _ _ (s₁.setTop (mkF m 22 #[.val (.int u0), .val (.int (-1 : Int32))] []))
    refine own_st (fun _ k => XS.iloadN X0.here hx rfl (hb hby d8_22) rfl k) ?_
    show own_Go _ _ _ _ (s₁.setTop (mkF m 23 #[.val (.int u0), .val (.int (-1 : Int32))] [(.int u0)]))
    refine own_st (fun _ k => XS.bipush X0.here hx rfl (hb hby d8_23) k) ?_
    show own_Go _ _ _ _ (s₁.setTop (mkF m 25 #[.val (.int u0), .val (.int (-1 : Int32))] [(.int (97 : Int32)), (.int u0)]))
    by_cases hc13 : u0 < (97 : Int32)
    · skip
      refine own_st (fun _ k => XS.icmpYes X0.here hx rfl (pc0 := 25) (pc' := 45) rfl (hb hby d8_25) rfl (tlt hc13).1 (by decide) (by decide) k) ?_
      show own_Go _ _ _ _ (s₁.setTop (mkF m 45 #[.val (.int u0), .val (.int (-1 : Int32))] []))
      refine own_st (fun _ k => XS.iloadN X0.here hx rfl (hb hby d8_45) rfl k) ?_
      show own_Go _ _ _ _ (s₁.setTop (mkF m 46 #[.val (.int u0), .val (.int (-1 : Int32))] [(.int u0)]))
      refine own_st (fun _ k => XS.bipush X0.here hx rfl (hb hby d8_46) k) ?_
      show own_Go _ _ _ _ (s₁.setTop (mkF m 48 #[.val (.int u0), .val (.int (-1 : Int32))] [(.int (65 : Int32)), (.int u0)]))
      by_cases hc14 : u0 < (65 : Int32)
      · skip
        refine own_st (fun _ k => XS.icmpYes X0.here hx rfl (pc0 := 48) (pc' := 65) rfl (hb hby d8_48) rfl (tlt hc14).1 (by decide) (by decide) k) ?_
        show own_Go _ _ _ _ (s₁.setTop (mkF m 65 #[.val (.int u0), .val (.int (-1 : Int32))] []))
        refine own_st (fun _ k => XS.iloadN X0.here hx rfl (hb hby d8_65) rfl k) ?_
        show own_Go _ _ _ _ (s₁.setTop (mkF m 66 #[.val (.int u0), .val (.int (-1 : Int32))] [(.int (-1 : Int32))]))
        obtain ⟨fs, hr, hrun, hended, hW, hsame⟩ := X0.leave (v := some (.int (-1 : Int32))) (fun h => by rw [Bd.returns] at h; cases h)
        refine own_out (own_retI X0 hx Bd.returns (hb hby d8_66) hr) ⟨hrun, hended, _, _, rfl, ?_, ⟨_, rfl⟩, hW, hsame.mono (by decide) (by decide)⟩
        show Q8 Z u0 h0 n0 _ s₁.heap _
        have hv : own_hx u0 = (-1 : Int32) := by
          unfold own_hx
          rw [if_pos hc12, if_pos hc13, if_pos hc14]
        exact ⟨by rw [hv], N0, e0⟩
      · skip
        refine own_st (fun _ k => XS.icmpNo X0.here hx rfl (hb hby d8_48) rfl (flt hc14).1 k) ?_
        show own_Go _ _ _ _ (s₁.setTop (mkF m 51 #[.val (.int u0), .val (.int (-1 : Int32))] []))
        refine own_st (fun _ k => XS.iloadN X0.here hx rfl (hb hby d8_51) rfl k) ?_
        show own_Go _ _ _ _ (s₁.setTop (mkF m 52 #[.val (.int u0), .val (.int (-1 : Int32))] [(.int u0)]))
        refine own_st (fun _ k => XS.bipush X0.here hx rfl (hb hby d8_52) k) ?_
        show own_Go _ _ _ _ (s₁.setTop (mkF m 54 #[.val (.int u0), .val (.int (-1 : Int32))] [(.int (70 : Int32)), (.int u0)]))
        by_cases hc15 : (70 : Int32) < u0
        · skip
          refine own_st (fun _ k => XS.icmpYes X0.here hx rfl (pc0 := 54) (pc' := 65) rfl (hb hby d8_54) rfl (tlt hc15).2.2.1 (by decide) (by decide) k) ?_
          show own_Go _ _ _ _ (s₁.setTop (mkF m 65 #[.val (.int u0), .val (.int (-1 : Int32))] []))
          refine own_st (fun _ k => XS.iloadN X0.here hx rfl (hb hby d8_65) rfl k) ?_
          show own_Go _ _ _ _ (s₁.setTop (mkF m 66 #[.val (.int u0), .val (.int (-1 : Int32))] [(.int (-1 : Int32))]))
          obtain ⟨fs, hr, hrun, hended, hW, hsame⟩ := X0.leave (v := some (.int (-1 : Int32))) (fun h => by rw [Bd.returns] at h; cases h)
          refine own_out (own_retI X0 hx Bd.returns (hb hby d8_66) hr) ⟨hrun, hended, _, _, rfl, ?_, ⟨_, rfl⟩, hW, hsame.mono (by decide) (by decide)⟩
          show Q8 Z u0 h0 n0 _ s₁.heap _
          have hv : own_hx u0 = (-1 : Int32) := by
            unfold own_hx
            rw [if_pos hc12, if_pos hc13, if_neg hc14, if_pos hc15]
          exact ⟨by rw [hv], N0, e0⟩
        · skip
          refine own_st (fun _ k => XS.icmpNo X0.here hx rfl (hb hby d8_54) rfl (flt hc15).2.2.1 k) ?_
          show own_Go _ _ _ _ (s₁.setTop (mkF m 57 #[.val (.int u0), .val (.int (-1 : Int32))] []))
          refine own_st (fun _ k => XS.iloadN X0.here hx rfl (hb hby d8_57) rfl k) ?_
          show own_Go _ _ _ _ (s₁.setTop (mkF m 58 #[.val (.int u0), .val (.int (-1 : Int32))] [(.int u0)]))
          refine own_st (fun _ k => XS.bipush X0.here hx rfl (hb hby d8_58) k) ?_
          show own_Go _ _ _ _ (s₁.setTop (mkF m 60 #[.val (.int u0), .val (.int (-1 : Int32))] [(.int (65 : Int32)), (.int u0)]))
          refine own_st (fun _ k => XS.isub X0.here hx rfl (hb hby d8_60) rfl k) ?_
          show own_Go _ _ _ _ (s₁.setTop (mkF m 61 #[.val (.int u0), .val (.int (-1 : Int32))] [(.int (u0 - (65 : Int32)))]))
          refine own_st (fun _ k => XS.bipush X0.here hx rfl (hb hby d8_61) k) ?_
          show own_Go _ _ _ _ (s₁.setTop (mkF m 63 #[.val (.int u0), .val (.int (-1 : Int32))] [(.int (10 : Int32)), (.int (u0 - (65 : Int32)))]))
          refine own_st (fun _ k => XS.iadd X0.here hx rfl (hb hby d8_63) rfl k) ?_
          show own_Go _ _ _ _ (s₁.setTop (mkF m 64 #[.val (.int u0), .val (.int (-1 : Int32))] [(.int ((u0 - (65 : Int32)) + (10 : Int32)))]))
          refine own_st (fun _ k => XS.istoreN X0.here hx rfl (hb hby d8_64) rfl (l' := #[.val (.int u0), .val (.int ((u0 - (65 : Int32)) + (10 : Int32)))]) rfl k) ?_
          show own_Go _ _ _ _ (s₁.setTop (mkF m 65 #[.val (.int u0), .val (.int ((u0 - (65 : Int32)) + (10 : Int32)))] []))
          refine own_st (fun _ k => XS.iloadN X0.here hx rfl (hb hby d8_65) rfl k) ?_
          show own_Go _ _ _ _ (s₁.setTop (mkF m 66 #[.val (.int u0), .val (.int ((u0 - (65 : Int32)) + (10 : Int32)))] [(.int ((u0 - (65 : Int32)) + (10 : Int32)))]))
          obtain ⟨fs, hr, hrun, hended, hW, hsame⟩ := X0.leave (v := some (.int ((u0 - (65 : Int32)) + (10 : Int32)))) (fun h => by rw [Bd.returns] at h; cases h)
          refine own_out (own_retI X0 hx Bd.returns (hb hby d8_66) hr) ⟨hrun, hended, _, _, rfl, ?_, ⟨_, rfl⟩, hW, hsame.mono (by decide) (by decide)⟩
          show Q8 Z u0 h0 n0 _ s₁.heap _
          have hv : own_hx u0 = ((u0 - (65 : Int32)) + (10 : Int32)) := by
            unfold own_hx
            rw [if_pos hc12, if_pos hc13, if_neg hc14, if_neg hc15]
          exact ⟨by rw [hv], N0, e0⟩
    · skip
      refine own_st (fun _ k => XS.icmpNo X0.here hx rfl (hb hby d8_25) rfl (flt hc13).1 k) ?_
      show own_Go _ _ _ _ (s₁.setTop (mkF m 28 #[.val (.int u0), .val (.int (-1 : Int32))] []))
      refine own_st (fun _ k => XS.iloadN X0.here hx rfl (hb hby d8_28) rfl k) ?_
      show own_Go _ _ _ _ (s₁.setTop (mkF m 29 #[.val (.int u0), .val (.int (-1 : Int32))] [(.int u0)]))
      refine own_st (fun _ k => XS.bipush X0.here hx rfl (hb hby d8_29) k) ?_
      show own_Go _ _ _ _ (s₁.setTop (mkF m 31 #[.val (.int u0), .val (.int (-1 : Int32))] [(.int (102 : Int32)), (.int u0)]))
      by_cases hc16 : (102 : Int32) < u0
      · skip
        refine own_st (fun _ k => XS.icmpYes X0.here hx rfl (pc0 := 31) (pc' := 45) rfl (hb hby d8_31) rfl (tlt hc16).2.2.1 (by decide) (by decide) k) ?_
        show own_Go _ _ _ _ (s₁.setTop (mkF m 45 #[.val (.int u0), .val (.int (-1 : Int32))] []))
        refine own_st (fun _ k => XS.iloadN X0.here hx rfl (hb hby d8_45) rfl k) ?_
        show own_Go _ _ _ _ (s₁.setTop (mkF m 46 #[.val (.int u0), .val (.int (-1 : Int32))] [(.int u0)]))
        refine own_st (fun _ k => XS.bipush X0.here hx rfl (hb hby d8_46) k) ?_
        show own_Go _ _ _ _ (s₁.setTop (mkF m 48 #[.val (.int u0), .val (.int (-1 : Int32))] [(.int (65 : Int32)), (.int u0)]))
        by_cases hc17 : u0 < (65 : Int32)
        · skip
          refine own_st (fun _ k => XS.icmpYes X0.here hx rfl (pc0 := 48) (pc' := 65) rfl (hb hby d8_48) rfl (tlt hc17).1 (by decide) (by decide) k) ?_
          show own_Go _ _ _ _ (s₁.setTop (mkF m 65 #[.val (.int u0), .val (.int (-1 : Int32))] []))
          refine own_st (fun _ k => XS.iloadN X0.here hx rfl (hb hby d8_65) rfl k) ?_
          show own_Go _ _ _ _ (s₁.setTop (mkF m 66 #[.val (.int u0), .val (.int (-1 : Int32))] [(.int (-1 : Int32))]))
          obtain ⟨fs, hr, hrun, hended, hW, hsame⟩ := X0.leave (v := some (.int (-1 : Int32))) (fun h => by rw [Bd.returns] at h; cases h)
          refine own_out (own_retI X0 hx Bd.returns (hb hby d8_66) hr) ⟨hrun, hended, _, _, rfl, ?_, ⟨_, rfl⟩, hW, hsame.mono (by decide) (by decide)⟩
          show Q8 Z u0 h0 n0 _ s₁.heap _
          have hv : own_hx u0 = (-1 : Int32) := by
            unfold own_hx
            rw [if_pos hc12, if_neg hc13, if_pos hc16, if_pos hc17]
          exact ⟨by rw [hv], N0, e0⟩
        · skip
          refine own_st (fun _ k => XS.icmpNo X0.here hx rfl (hb hby d8_48) rfl (flt hc17).1 k) ?_
          show own_Go _ _ _ _ (s₁.setTop (mkF m 51 #[.val (.int u0), .val (.int (-1 : Int32))] []))
          refine own_st (fun _ k => XS.iloadN X0.here hx rfl (hb hby d8_51) rfl k) ?_
          show own_Go _ _ _ _ (s₁.setTop (mkF m 52 #[.val (.int u0), .val (.int (-1 : Int32))] [(.int u0)]))
          refine own_st (fun _ k => XS.bipush X0.here hx rfl (hb hby d8_52) k) ?_
          show own_Go _ _ _ _ (s₁.setTop (mkF m 54 #[.val (.int u0), .val (.int (-1 : Int32))] [(.int (70 : Int32)), (.int u0)]))
          by_cases hc18 : (70 : Int32) < u0
          · skip
            refine own_st (fun _ k => XS.icmpYes X0.here hx rfl (pc0 := 54) (pc' := 65) rfl (hb hby d8_54) rfl (tlt hc18).2.2.1 (by decide) (by decide) k) ?_
            show own_Go _ _ _ _ (s₁.setTop (mkF m 65 #[.val (.int u0), .val (.int (-1 : Int32))] []))
            refine own_st (fun _ k => XS.iloadN X0.here hx rfl (hb hby d8_65) rfl k) ?_
            show own_Go _ _ _ _ (s₁.setTop (mkF m 66 #[.val (.int u0), .val (.int (-1 : Int32))] [(.int (-1 : Int32))]))
            obtain ⟨fs, hr, hrun, hended, hW, hsame⟩ := X0.leave (v := some (.int (-1 : Int32))) (fun h => by rw [Bd.returns] at h; cases h)
            refine own_out (own_retI X0 hx Bd.returns (hb hby d8_66) hr) ⟨hrun, hended, _, _, rfl, ?_, ⟨_, rfl⟩, hW, hsame.mono (by decide) (by decide)⟩
            show Q8 Z u0 h0 n0 _ s₁.heap _
            have hv : own_hx u0 = (-1 : Int32) := by
              unfold own_hx
              rw [if_pos hc12, if_neg hc13, if_pos hc16, if_neg hc17, if_pos hc18]
            exact ⟨by rw [hv], N0, e0⟩
          · skip
            refine own_st (fun _ k => XS.icmpNo X0.here hx rfl (hb hby d8_54) rfl (flt hc18).2.2.1 k) ?_
            show own_Go _ _ _ _ (s₁.setTop (mkF m 57 #[.val (.int u0), .val (.int (-1 : Int32))] []))
            refine own_st (fun _ k => XS.iloadN X0.here hx rfl (hb hby d8_57) rfl k) ?_
            show own_Go _ _ _ _ (s₁.setTop (mkF m 58 #[.val (.int u0), .val (.int (-1 : Int32))] [(.int u0)]))
            refine own_st (fun _ k => XS.bipush X0.here hx rfl (hb hby d8_58) k) ?_
            show own_Go _ _ _ _ (s₁.setTop (mkF m 60 #[.val (.int u0), .val (.int (-1 : Int32))] [(.int (65 : Int32)), (.int u0)]))
            refine own_st (fun _ k => XS.isub X0.here hx rfl (hb hby d8_60) rfl k) ?_
            show own_Go _ _ _ _ (s₁.setTop (mkF m 61 #[.val (.int u0), .val (.int (-1 : Int32))] [(.int (u0 - (65 : Int32)))]))
            refine own_st (fun _ k => XS.bipush X0.here hx rfl (hb hby d8_61) k) ?_
            show own_Go _ _ _ _ (s₁.setTop (mkF m 63 #[.val (.int u0), .val (.int (-1 : Int32))] [(.int (10 : Int32)), (.int (u0 - (65 : Int32)))]))
            refine own_st (fun _ k => XS.iadd X0.here hx rfl (hb hby d8_63) rfl k) ?_
            show own_Go _ _ _ _ (s₁.setTop (mkF m 64 #[.val (.int u0), .val (.int (-1 : Int32))] [(.int ((u0 - (65 : Int32)) + (10 : Int32)))]))
            refine own_st (fun _ k => XS.istoreN X0.here hx rfl (hb hby d8_64) rfl (l' := #[.val (.int u0), .val (.int ((u0 - (65 : Int32)) + (10 : Int32)))]) rfl k) ?_
            show own_Go _ _ _ _ (s₁.setTop (mkF m 65 #[.val (.int u0), .val (.int ((u0 - (65 : Int32)) + (10 : Int32)))] []))
            refine own_st (fun _ k => XS.iloadN X0.here hx rfl (hb hby d8_65) rfl k) ?_
            show own_Go _ _ _ _ (s₁.setTop (mkF m 66 #[.val (.int u0), .val (.int ((u0 - (65 : Int32)) + (10 : Int32)))] [(.int ((u0 - (65 : Int32)) + (10 : Int32)))]))
            obtain ⟨fs, hr, hrun, hended, hW, hsame⟩ := X0.leave (v := some (.int ((u0 - (65 : Int32)) + (10 : Int32)))) (fun h => by rw [Bd.returns] at h; cases h)
            refine own_out (own_retI X0 hx Bd.returns (hb hby d8_66) hr) ⟨hrun, hended, _, _, rfl, ?_, ⟨_, rfl⟩, hW, hsame.mono (by decide) (by decide)⟩
            show Q8 Z u0 h0 n0 _ s₁.heap _
            have hv : own_hx u0 = ((u0 - (65 : Int32)) + (10 : Int32)) := by
              unfold own_hx
              rw [if_pos hc12, if_neg hc13, if_pos hc16, if_neg hc17, if_neg hc18]
            exact ⟨by rw [hv], N0, e0⟩
      · skip
        refine own_st (fun _ k => XS.icmpNo X0.here hx rfl (hb hby d8_31) rfl (flt hc16).2.2.1 k) ?_
        show own_Go _ _ _ _ (s₁.setTop (mkF m 34 #[.val (.int u0), .val (.int (-1 : Int32))] []))
        refine own_st (fun _ k => XS.iloadN X0.here hx rfl (hb hby d8_34) rfl k) ?_
        show own_Go _ _ _ _ (s₁.setTop (mkF m 35 #[.val (.int u0), .val (.int (-1 : Int32))] [(.int u0)]))
        refine own_st (fun _ k => XS.bipush X0.here hx rfl (hb hby d8_35) k) ?_
        show own_Go _ _ _ _ (s₁.setTop (mkF m 37 #[.val (.int u0), .val (.int (-1 : Int32))] [(.int (97 : Int32)), (.int u0)]))
        refine own_st (fun _ k => XS.isub X0.here hx rfl (hb hby d8_37) rfl k) ?_
        show own_Go _ _ _ _ (s₁.setTop (mkF m 38 #[.val (.int u0), .val (.int (-1 : Int32))] [(.int (u0 - (97 : Int32)))]))
        refine own_st (fun _ k => XS.bipush X0.here hx rfl (hb hby d8_38) k) ?_
        show own_Go _ _ _ _ (s₁.setTop (mkF m 40 #[.val (.int u0), .val (.int (-1 : Int32))] [(.int (10 : Int32)), (.int (u0 - (97 : Int32)))]))
        refine own_st (fun _ k => XS.iadd X0.here hx rfl (hb hby d8_40) rfl k) ?_
        show own_Go _ _ _ _ (s₁.setTop (mkF m 41 #[.val (.int u0), .val (.int (-1 : Int32))] [(.int ((u0 - (97 : Int32)) + (10 : Int32)))]))
        refine own_st (fun _ k => XS.istoreN X0.here hx rfl (hb hby d8_41) rfl (l' := #[.val (.int u0), .val (.int ((u0 - (97 : Int32)) + (10 : Int32)))]) rfl k) ?_
        show own_Go _ _ _ _ (s₁.setTop (mkF m 42 #[.val (.int u0), .val (.int ((u0 - (97 : Int32)) + (10 : Int32)))] []))
        refine own_st (fun _ k => XS.goto X0.here hx rfl (pc0 := 42) (pc' := 65) rfl (hb hby d8_42) (by decide) (by decide) k) ?_
        show own_Go _ _ _ _ (s₁.setTop (mkF m 65 #[.val (.int u0), .val (.int ((u0 - (97 : Int32)) + (10 : Int32)))] []))
        refine own_st (fun _ k => XS.iloadN X0.here hx rfl (hb hby d8_65) rfl k) ?_
        show own_Go _ _ _ _ (s₁.setTop (mkF m 66 #[.val (.int u0), .val (.int ((u0 - (97 : Int32)) + (10 : Int32)))] [(.int ((u0 - (97 : Int32)) + (10 : Int32)))]))
        obtain ⟨fs, hr, hrun, hended, hW, hsame⟩ := X0.leave (v := some (.int ((u0 - (97 : Int32)) + (10 : Int32)))) (fun h => by rw [Bd.returns] at h; cases h)
        refine own_out (own_retI X0 hx Bd.returns (hb hby d8_66) hr) ⟨hrun, hended, _, _, rfl, ?_, ⟨_, rfl⟩, hW, hsame.mono (by decide) (by decide)⟩
        show Q8 Z u0 h0 n0 _ s₁.heap _
        have hv : own_hx u0 = ((u0 - (97 : Int32)) + (10 : Int32)) := by
          unfold own_hx
          rw [if_pos hc12, if_neg hc13, if_neg hc16]
        exact ⟨by rw [hv], N0, e0⟩
  · skip
    refine own_st (fun _ k => XS.icmpNo X0.here hx rfl (hb hby d8_5) rfl (flt hc12).1 k) ?_
    show own_Go _ _ _ _ (s₁.setTop (mkF m 8 #[.val (.int u0), .val (.int (-1 : Int32))] []))
    refine own_st (fun _ k => XS.iloadN X0.here hx rfl (hb hby d8_8) rfl k) ?_
    show own_Go _ _ _ _ (s₁.setTop (mkF m 9 #[.val (.int u0), .val (.int (-1 : Int32))] [(.int u0)]))
    refine own_st (fun _ k => XS.bipush X0.here hx rfl (hb hby d8_9) k) ?_
    show own_Go _ _ _ _ (s₁.setTop (mkF m 11 #[.val (.int u0), .val (.int (-1 : Int32))] [(.int (57 : Int32)), (.int u0)]))
    by_cases hc19 : (57 : Int32) < u0
    · skip
      refine own_st (fun _ k => XS.icmpYes X0.here hx rfl (pc0 := 11) (pc' := 22) rfl (hb hby d8_11) rfl (tlt hc19).2.2.1 (by decide) (by decide) k) ?_
      show own_Go _ _ _ _ (s₁.setTop (mkF m 22 #[.val (.int u0), .val (.int (-1 : Int32))] []))
      refine own_st (fun _ k => XS.iloadN X0.here hx rfl (hb hby d8_22) rfl k) ?_
      show own_Go _ _ _ _ (s₁.setTop (mkF m 23 #[.val (.int u0), .val (.int (-1 : Int32))] [(.int u0)]))
      refine own_st (fun _ k => XS.bipush X0.here hx rfl (hb hby d8_23) k) ?_
      show own_Go _ _ _ _ (s₁.setTop (mkF m 25 #[.val (.int u0), .val (.int (-1 : Int32))] [(.int (97 : Int32)), (.int u0)]))
      by_cases hc20 : u0 < (97 : Int32)
      · skip
        refine own_st (fun _ k => XS.icmpYes X0.here hx rfl (pc0 := 25) (pc' := 45) rfl (hb hby d8_25) rfl (tlt hc20).1 (by decide) (by decide) k) ?_
        show own_Go _ _ _ _ (s₁.setTop (mkF m 45 #[.val (.int u0), .val (.int (-1 : Int32))] []))
        refine own_st (fun _ k => XS.iloadN X0.here hx rfl (hb hby d8_45) rfl k) ?_
        show own_Go _ _ _ _ (s₁.setTop (mkF m 46 #[.val (.int u0), .val (.int (-1 : Int32))] [(.int u0)]))
        refine own_st (fun _ k => XS.bipush X0.here hx rfl (hb hby d8_46) k) ?_
        show own_Go _ _ _ _ (s₁.setTop (mkF m 48 #[.val (.int u0), .val (.int (-1 : Int32))] [(.int (65 : Int32)), (.int u0)]))
        by_cases hc21 : u0 < (65 : Int32)
        · skip
          refine own_st (fun _ k => XS.icmpYes X0.here hx rfl (pc0 := 48) (pc' := 65) rfl (hb hby d8_48) rfl (tlt hc21).1 (by decide) (by decide) k) ?_
          show own_Go _ _ _ _ (s₁.setTop (mkF m 65 #[.val (.int u0), .val (.int (-1 : Int32))] []))
          refine own_st (fun _ k => XS.iloadN X0.here hx rfl (hb hby d8_65) rfl k) ?_
          show own_Go _ _ _ _ (s₁.setTop (mkF m 66 #[.val (.int u0), .val (.int (-1 : Int32))] [(.int (-1 : Int32))]))
          obtain ⟨fs, hr, hrun, hended, hW, hsame⟩ := X0.leave (v := some (.int (-1 : Int32))) (fun h => by rw [Bd.returns] at h; cases h)
          refine own_out (own_retI X0 hx Bd.returns (hb hby d8_66) hr) ⟨hrun, hended, _, _, rfl, ?_, ⟨_, rfl⟩, hW, hsame.mono (by decide) (by decide)⟩
          show Q8 Z u0 h0 n0 _ s₁.heap _
          have hv : own_hx u0 = (-1 : Int32) := by
            unfold own_hx
            rw [if_neg hc12, if_pos hc19, if_pos hc20, if_pos hc21]
          exact ⟨by rw [hv], N0, e0⟩
        · skip
          refine own_st (fun _ k => XS.icmpNo X0.here hx rfl (hb hby d8_48) rfl (flt hc21).1 k) ?_
          show own_Go _ _ _ _ (s₁.setTop (mkF m 51 #[.val (.int u0), .val (.int (-1 : Int32))] []))
          refine own_st (fun _ k => XS.iloadN X0.here hx rfl (hb hby d8_51) rfl k) ?_
          show own_Go _ _ _ _ (s₁.setTop (mkF m 52 #[.val (.int u0), .val (.int (-1 : Int32))] [(.int u0)]))
          refine own_st (fun _ k => XS.bipush X0.here hx rfl (hb hby d8_52) k) ?_
          show own_Go _ _ _ _ (s₁.setTop (mkF m 54 #[.val (.int u0), .val (.int (-1 : Int32))] [(.int (70 : Int32)), (.int u0)]))
          by_cases hc22 : (70 : Int32) < u0
          · skip
            refine own_st (fun _ k => XS.icmpYes X0.here hx rfl (pc0 := 54) (pc' := 65) rfl (hb hby d8_54) rfl (tlt hc22).2.2.1 (by decide) (by decide) k) ?_
            show own_Go _ _ _ _ (s₁.setTop (mkF m 65 #[.val (.int u0), .val (.int (-1 : Int32))] []))
            refine own_st (fun _ k => XS.iloadN X0.here hx rfl (hb hby d8_65) rfl k) ?_
            show own_Go _ _ _ _ (s₁.setTop (mkF m 66 #[.val (.int u0), .val (.int (-1 : Int32))] [(.int (-1 : Int32))]))
            obtain ⟨fs, hr, hrun, hended, hW, hsame⟩ := X0.leave (v := some (.int (-1 : Int32))) (fun h => by rw [Bd.returns] at h; cases h)
            refine own_out (own_retI X0 hx Bd.returns (hb hby d8_66) hr) ⟨hrun, hended, _, _, rfl, ?_, ⟨_, rfl⟩, hW, hsame.mono (by decide) (by decide)⟩
            show Q8 Z u0 h0 n0 _ s₁.heap _
            have hv : own_hx u0 = (-1 : Int32) := by
              unfold own_hx
              rw [if_neg hc12, if_pos hc19, if_pos hc20, if_neg hc21, if_pos hc22]
            exact ⟨by rw [hv], N0, e0⟩
          · skip
            refine own_st (fun _ k => XS.icmpNo X0.here hx rfl (hb hby d8_54) rfl (flt hc22).2.2.1 k) ?_
            show own_Go _ _ _ _ (s₁.setTop (mkF m 57 #[.val (.int u0), .val (.int (-1 : Int32))] []))
            refine own_st (fun _ k => XS.iloadN X0.here hx rfl (hb hby d8_57) rfl k) ?_
            show own_Go _ _ _ _ (s₁.setTop (mkF m 58 #[.val (.int u0), .val (.int (-1 : Int32))] [(.int u0)]))
            refine own_st (fun _ k => XS.bipush X0.here hx rfl (hb hby d8_58) k) ?_
            show own_Go _ _ _ _ (s₁.setTop (mkF m 60 #[.val (.int u0), .val (.int (-1 : Int32))] [(.int (65 : Int32)), (.int u0)]))
            refine own_st (fun _ k => XS.isub X0.here hx rfl (hb hby d8_60) rfl k) ?_
            show own_Go _ _ _ _ (s₁.setTop (mkF m 61 #[.val (.int u0), .val (.int (-1 : Int32))] [(.int (u0 - (65 : Int32)))]))
            refine own_st (fun _ k => XS.bipush X0.here hx rfl (hb hby d8_61) k) ?_
            show own_Go _ _ _ _ (s₁.setTop (mkF m 63 #[.val (.int u0), .val (.int (-1 : Int32))] [(.int (10 : Int32)), (.int (u0 - (65 : Int32)))]))
            refine own_st (fun _ k => XS.iadd X0.here hx rfl (hb hby d8_63) rfl k) ?_
            show own_Go _ _ _ _ (s₁.setTop (mkF m 64 #[.val (.int u0), .val (.int (-1 : Int32))] [(.int ((u0 - (65 : Int32)) + (10 : Int32)))]))
            refine own_st (fun _ k => XS.istoreN X0.here hx rfl (hb hby d8_64) rfl (l' := #[.val (.int u0), .val (.int ((u0 - (65 : Int32)) + (10 : Int32)))]) rfl k) ?_
            show own_Go _ _ _ _ (s₁.setTop (mkF m 65 #[.val (.int u0), .val (.int ((u0 - (65 : Int32)) + (10 : Int32)))] []))
            refine own_st (fun _ k => XS.iloadN X0.here hx rfl (hb hby d8_65) rfl k) ?_
            show own_Go _ _ _ _ (s₁.setTop (mkF m 66 #[.val (.int u0), .val (.int ((u0 - (65 : Int32)) + (10 : Int32)))] [(.int ((u0 - (65 : Int32)) + (10 : Int32)))]))
            obtain ⟨fs, hr, hrun, hended, hW, hsame⟩ := X0.leave (v := some (.int ((u0 - (65 : Int32)) + (10 : Int32)))) (fun h => by rw [Bd.returns] at h; cases h)
            refine own_out (own_retI X0 hx Bd.returns (hb hby d8_66) hr) ⟨hrun, hended, _, _, rfl, ?_, ⟨_, rfl⟩, hW, hsame.mono (by decide) (by decide)⟩
            show Q8 Z u0 h0 n0 _ s₁.heap _
            have hv : own_hx u0 = ((u0 - (65 : Int32)) + (10 : Int32)) := by
              unfold own_hx
              rw [if_neg hc12, if_pos hc19, if_pos hc20, if_neg hc21, if_neg hc22]
            exact ⟨by rw [hv], N0, e0⟩
      · skip
        refine own_st (fun _ k => XS.icmpNo X0.here hx rfl (hb hby d8_25) rfl (flt hc20).1 k) ?_
        show own_Go _ _ _ _ (s₁.setTop (mkF m 28 #[.val (.int u0), .val (.int (-1 : Int32))] []))
        refine own_st (fun _ k => XS.iloadN X0.here hx rfl (hb hby d8_28) rfl k) ?_
        show own_Go _ _ _ _ (s₁.setTop (mkF m 29 #[.val (.int u0), .val (.int (-1 : Int32))] [(.int u0)]))
        refine own_st (fun _ k => XS.bipush X0.here hx rfl (hb hby d8_29) k) ?_
        show own_Go _ _ _ _ (s₁.setTop (mkF m 31 #[.val (.int u0), .val (.int (-1 : Int32))] [(.int (102 : Int32)), (.int u0)]))
        by_cases hc23 : (102 : Int32) < u0
        · skip
          refine own_st (fun _ k => XS.icmpYes X0.here hx rfl (pc0 := 31) (pc' := 45) rfl (hb hby d8_31) rfl (tlt hc23).2.2.1 (by decide) (by decide) k) ?_
          show own_Go _ _ _ _ (s₁.setTop (mkF m 45 #[.val (.int u0), .val (.int (-1 : Int32))] []))
          refine own_st (fun _ k => XS.iloadN X0.here hx rfl (hb hby d8_45) rfl k) ?_
          show own_Go _ _ _ _ (s₁.setTop (mkF m 46 #[.val (.int u0), .val (.int (-1 : Int32))] [(.int u0)]))
          refine own_st (fun _ k => XS.bipush X0.here hx rfl (hb hby d8_46) k) ?_
          show own_Go _ _ _ _ (s₁.setTop (mkF m 48 #[.val (.int u0), .val (.int (-1 : Int32))] [(.int (65 : Int32)), (.int u0)]))
          by_cases hc24 : u0 < (65 : Int32)
          · skip
            refine own_st (fun _ k => XS.icmpYes X0.here hx rfl (pc0 := 48) (pc' := 65) rfl (hb hby d8_48) rfl (tlt hc24).1 (by decide) (by decide) k) ?_
            show own_Go _ _ _ _ (s₁.setTop (mkF m 65 #[.val (.int u0), .val (.int (-1 : Int32))] []))
            refine own_st (fun _ k => XS.iloadN X0.here hx rfl (hb hby d8_65) rfl k) ?_
            show own_Go _ _ _ _ (s₁.setTop (mkF m 66 #[.val (.int u0), .val (.int (-1 : Int32))] [(.int (-1 : Int32))]))
            obtain ⟨fs, hr, hrun, hended, hW, hsame⟩ := X0.leave (v := some (.int (-1 : Int32))) (fun h => by rw [Bd.returns] at h; cases h)
            refine own_out (own_retI X0 hx Bd.returns (hb hby d8_66) hr) ⟨hrun, hended, _, _, rfl, ?_, ⟨_, rfl⟩, hW, hsame.mono (by decide) (by decide)⟩
            show Q8 Z u0 h0 n0 _ s₁.heap _
            have hv : own_hx u0 = (-1 : Int32) := by
              unfold own_hx
              rw [if_neg hc12, if_pos hc19, if_neg hc20, if_pos hc23, if_pos hc24]
            exact ⟨by rw [hv], N0, e0⟩
          · skip
            refine own_st (fun _ k => XS.icmpNo X0.here hx rfl (hb hby d8_48) rfl (flt hc24).1 k) ?_
            show own_Go _ _ _ _ (s₁.setTop (mkF m 51 #[.val (.int u0), .val (.int (-1 : Int32))] []))
            refine own_st (fun _ k => XS.iloadN X0.here hx rfl (hb hby d8_51) rfl k) ?_
            show own_Go _ _ _ _ (s₁.setTop (mkF m 52 #[.val (.int u0), .val (.int (-1 : Int32))] [(.int u0)]))
            refine own_st (fun _ k => XS.bipush X0.here hx rfl (hb hby d8_52) k) ?_
            show own_Go _ _ _ _ (s₁.setTop (mkF m 54 #[.val (.int u0), .val (.int (-1 : Int32))] [(.int (70 : Int32)), (.int u0)]))
            by_cases hc25 : (70 : Int32) < u0
            · skip
              refine own_st (fun _ k => XS.icmpYes X0.here hx rfl (pc0 := 54) (pc' := 65) rfl (hb hby d8_54) rfl (tlt hc25).2.2.1 (by decide) (by decide) k) ?_
              show own_Go _ _ _ _ (s₁.setTop (mkF m 65 #[.val (.int u0), .val (.int (-1 : Int32))] []))
              refine own_st (fun _ k => XS.iloadN X0.here hx rfl (hb hby d8_65) rfl k) ?_
              show own_Go _ _ _ _ (s₁.setTop (mkF m 66 #[.val (.int u0), .val (.int (-1 : Int32))] [(.int (-1 : Int32))]))
              obtain ⟨fs, hr, hrun, hended, hW, hsame⟩ := X0.leave (v := some (.int (-1 : Int32))) (fun h => by rw [Bd.returns] at h; cases h)
              refine own_out (own_retI X0 hx Bd.returns (hb hby d8_66) hr) ⟨hrun, hended, _, _, rfl, ?_, ⟨_, rfl⟩, hW, hsame.mono (by decide) (by decide)⟩
              show Q8 Z u0 h0 n0 _ s₁.heap _
              have hv : own_hx u0 = (-1 : Int32) := by
                unfold own_hx
                rw [if_neg hc12, if_pos hc19, if_neg hc20, if_pos hc23, if_neg hc24, if_pos hc25]
              exact ⟨by rw [hv], N0, e0⟩
            · skip
              refine own_st (fun _ k => XS.icmpNo X0.here hx rfl (hb hby d8_54) rfl (flt hc25).2.2.1 k) ?_
              show own_Go _ _ _ _ (s₁.setTop (mkF m 57 #[.val (.int u0), .val (.int (-1 : Int32))] []))
              refine own_st (fun _ k => XS.iloadN X0.here hx rfl (hb hby d8_57) rfl k) ?_
              show own_Go _ _ _ _ (s₁.setTop (mkF m 58 #[.val (.int u0), .val (.int (-1 : Int32))] [(.int u0)]))
              refine own_st (fun _ k => XS.bipush X0.here hx rfl (hb hby d8_58) k) ?_
              show own_Go _ _ _ _ (s₁.setTop (mkF m 60 #[.val (.int u0), .val (.int (-1 : Int32))] [(.int (65 : Int32)), (.int u0)]))
              refine own_st (fun _ k => XS.isub X0.here hx rfl (hb hby d8_60) rfl k) ?_
              show own_Go _ _ _ _ (s₁.setTop (mkF m 61 #[.val (.int u0), .val (.int (-1 : Int32))] [(.int (u0 - (65 : Int32)))]))
              refine own_st (fun _ k => XS.bipush X0.here hx rfl (hb hby d8_61) k) ?_
              show own_Go _ _ _ _ (s₁.setTop (mkF m 63 #[.val (.int u0), .val (.int (-1 : Int32))] [(.int (10 : Int32)), (.int (u0 - (65 : Int32)))]))
              refine own_st (fun _ k => XS.iadd X0.here hx rfl (hb hby d8_63) rfl k) ?_
              show own_Go _ _ _ _ (s₁.setTop (mkF m 64 #[.val (.int u0), .val (.int (-1 : Int32))] [(.int ((u0 - (65 : Int32)) + (10 : Int32)))]))
              refine own_st (fun _ k => XS.istoreN X0.here hx rfl (hb hby d8_64) rfl (l' := #[.val (.int u0), .val (.int ((u0 - (65 : Int32)) + (10 : Int32)))]) rfl k) ?_
              show own_Go _ _ _ _ (s₁.setTop (mkF m 65 #[.val (.int u0), .val (.int ((u0 - (65 : Int32)) + (10 : Int32)))] []))
              refine own_st (fun _ k => XS.iloadN X0.here hx rfl (hb hby d8_65) rfl k) ?_
              show own_Go _ _ _ _ (s₁.setTop (mkF m 66 #[.val (.int u0), .val (.int ((u0 - (65 : Int32)) + (10 : Int32)))] [(.int ((u0 - (65 : Int32)) + (10 : Int32)))]))
              obtain ⟨fs, hr, hrun, hended, hW, hsame⟩ := X0.leave (v := some (.int ((u0 - (65 : Int32)) + (10 : Int32)))) (fun h => by rw [Bd.returns] at h; cases h)
              refine own_out (own_retI X0 hx Bd.returns (hb hby d8_66) hr) ⟨hrun, hended, _, _, rfl, ?_, ⟨_, rfl⟩, hW, hsame.mono (by decide) (by decide)⟩
              show Q8 Z u0 h0 n0 _ s₁.heap _
              have hv : own_hx u0 = ((u0 - (65 : Int32)) + (10 : Int32)) := by
                unfold own_hx
                rw [if_neg hc12, if_pos hc19, if_neg hc20, if_pos hc23, if_neg hc24, if_neg hc25]
              exact ⟨by rw [hv], N0, e0⟩
        · skip
          refine own_st (fun _ k => XS.icmpNo X0.here hx rfl (hb hby d8_31) rfl (flt hc23).2.2.1 k) ?_
          show own_Go _ _ _ _ (s₁.setTop (mkF m 34 #[.val (.int u0), .val (.int (-1 : Int32))] []))
          refine own_st (fun _ k => XS.iloadN X0.here hx rfl (hb hby d8_34) rfl k) ?_
          show own_Go _ _ _ _ (s₁.setTop (mkF m 35 #[.val (.int u0), .val (.int (-1 : Int32))] [(.int u0)]))
          refine own_st (fun _ k => XS.bipush X0.here hx rfl (hb hby d8_35) k) ?_
          show own_Go _ _ _ _ (s₁.setTop (mkF m 37 #[.val (.int u0), .val (.int (-1 : Int32))] [(.int (97 : Int32)), (.int u0)]))
          refine own_st (fun _ k => XS.isub X0.here hx rfl (hb hby d8_37) rfl k) ?_
          show own_Go _ _ _ _ (s₁.setTop (mkF m 38 #[.val (.int u0), .val (.int (-1 : Int32))] [(.int (u0 - (97 : Int32)))]))
          refine own_st (fun _ k => XS.bipush X0.here hx rfl (hb hby d8_38) k) ?_
          show own_Go _ _ _ _ (s₁.setTop (mkF m 40 #[.val (.int u0), .val (.int (-1 : Int32))] [(.int (10 : Int32)), (.int (u0 - (97 : Int32)))]))
          refine own_st (fun _ k => XS.iadd X0.here hx rfl (hb hby d8_40) rfl k) ?_
          show own_Go _ _ _ _ (s₁.setTop (mkF m 41 #[.val (.int u0), .val (.int (-1 : Int32))] [(.int ((u0 - (97 : Int32)) + (10 : Int32)))]))
          refine own_st (fun _ k => XS.istoreN X0.here hx rfl (hb hby d8_41) rfl (l' := #[.val (.int u0), .val (.int ((u0 - (97 : Int32)) + (10 : Int32)))]) rfl k) ?_
          show own_Go _ _ _ _ (s₁.setTop (mkF m 42 #[.val (.int u0), .val (.int ((u0 - (97 : Int32)) + (10 : Int32)))] []))
          refine own_st (fun _ k => XS.goto X0.here hx rfl (pc0 := 42) (pc' := 65) rfl (hb hby d8_42) (by decide) (by decide) k) ?_
          show own_Go _ _ _ _ (s₁.setTop (mkF m 65 #[.val (.int u0), .val (.int ((u0 - (97 : Int32)) + (10 : Int32)))] []))
          refine own_st (fun _ k => XS.iloadN X0.here hx rfl (hb hby d8_65) rfl k) ?_
          show own_Go _ _ _ _ (s₁.setTop (mkF m 66 #[.val (.int u0), .val (.int ((u0 - (97 : Int32)) + (10 : Int32)))] [(.int ((u0 - (97 : Int32)) + (10 : Int32)))]))
          obtain ⟨fs, hr, hrun, hended, hW, hsame⟩ := X0.leave (v := some (.int ((u0 - (97 : Int32)) + (10 : Int32)))) (fun h => by rw [Bd.returns] at h; cases h)
          refine own_out (own_retI X0 hx Bd.returns (hb hby d8_66) hr) ⟨hrun, hended, _, _, rfl, ?_, ⟨_, rfl⟩, hW, hsame.mono (by decide) (by decide)⟩
          show Q8 Z u0 h0 n0 _ s₁.heap _
          have hv : own_hx u0 = ((u0 - (97 : Int32)) + (10 : Int32)) := by
            unfold own_hx
            rw [if_neg hc12, if_pos hc19, if_neg hc20, if_neg hc23]
          exact ⟨by rw [hv], N0, e0⟩
    · skip
      refine own_st (fun _ k => XS.icmpNo X0.here hx rfl (hb hby d8_11) rfl (flt hc19).2.2.1 k) ?_
      show own_Go _ _ _ _ (s₁.setTop (mkF m 14 #[.val (.int u0), .val (.int (-1 : Int32))] []))
      refine own_st (fun _ k => XS.iloadN X0.here hx rfl (hb hby d8_14) rfl k) ?_
      show own_Go _ _ _ _ (s₁.setTop (mkF m 15 #[.val (.int u0), .val (.int (-1 : Int32))] [(.int u0)]))
      refine own_st (fun _ k => XS.bipush X0.here hx rfl (hb hby d8_15) k) ?_
      show own_Go _ _ _ _ (s₁.setTop (mkF m 17 #[.val (.int u0), .val (.int (-1 : Int32))] [(.int (48 : Int32)), (.int u0)]))
      refine own_st (fun _ k => XS.isub X0.here hx rfl (hb hby d8_17) rfl k) ?_
      show own_Go _ _ _ _ (s₁.setTop (mkF m 18 #[.val (.int u0), .val (.int (-1 : Int32))] [(.int (u0 - (48 : Int32)))]))
      refine own_st (fun _ k => XS.istoreN X0.here hx rfl (hb hby d8_18) rfl (l' := #[.val (.int u0), .val (.int (u0 - (48 : Int32)))]) rfl k) ?_
      show own_Go _ _ _ _ (s₁.setTop (mkF m 19 #[.val (.int u0), .val (.int (u0 - (48 : Int32)))] []))
      refine own_st (fun _ k => XS.goto X0.here hx rfl (pc0 := 19) (pc' := 65) rfl (hb hby d8_19) (by decide) (by decide) k) ?_
      show own_Go _ _ _ _ (s₁.setTop (mkF m 65 #[.val (.int u0), .val (.int (u0 - (48 : Int32)))] []))
      refine own_st (fun _ k => XS.iloadN X0.here hx rfl (hb hby d8_65) rfl k) ?_
      show own_Go _ _ _ _ (s₁.setTop (mkF m 66 #[.val (.int u0), .val (.int (u0 - (48 : Int32)))] [(.int (u0 - (48 : Int32)))]))
      obtain ⟨fs, hr, hrun, hended, hW, hsame⟩ := X0.leave (v := some (.int (u0 - (48 : Int32)))) (fun h => by rw [Bd.returns] at h; cases h)
      refine own_out (own_retI X0 hx Bd.returns (hb hby d8_66) hr) ⟨hrun, hended, _, _, rfl, ?_, ⟨_, rfl⟩, hW, hsame.mono (by decide) (by decide)⟩
      show Q8 Z u0 h0 n0 _ s₁.heap _
      have hv : own_hx u0 = (u0 - (48 : Int32)) := by
        unfold own_hx
        rw [if_neg hc12, if_neg hc19]
      exact ⟨by rw [hv], N0, e0⟩
theorem own_ib {Z : State} {vm vm' : Vm} {Ts : List String} (I : IB Z vm Ts) (h : vm'.interned = vm.interned) : IB Z vm' Ts := by
  obtain ⟨more, e, q⟩ := I
  exact ⟨more, by rw [h]; exact e, q⟩
theorem own_backS {p : Program} {l : Launch} {e : Env} {R : Room} {s : State} {args : Array Value} {below : List Frame} {Z : State} {a0 : Array Value} {h : Heap} {y : MethodName} {bytes : ByteArray} {maxL : Nat} {ret : Option FieldType} {rm : Room} {len W : Nat} {as' : Array Value} {Q : Option Value → Vm → Heap → List Loc → Prop}
    (hM : MetFree l y (head1 [Cond.code y bytes maxL ret] rm) (fun a U => a = as' ∧ Z.Warmed39 U.vm ∧ s.WarmedH U.vm ∧ U.heap = h) (fun _ _ _ _ _ => True) (fun _ U o U' => ∃ v L, o = .returned v ∧ Q v U'.vm U'.heap L ∧ ReturnedEndW U o U' L rm.cells rm.slots))
    (hZ : Z.Warmed39 s.vm) (wc : (Cond.code y bytes maxL ret).before a0 Z = true) (wz : (Cond.initialized y.cls).before a0 Z = true) (hf : rm.frames + 1 ≤ R.frames) (hl : W + (maxL + 11) + rm.locals ≤ R.locals) :
    BackS l R p e below s args y len W (fun A a => a = as' ∧ A.U.heap = h ∧ A.cells + rm.cells ≤ R.cells ∧ A.slots + rm.slots ≤ R.slots)
      (fun A _ v B => ∃ L, Q v B.U.vm B.U.heap L ∧ B.locs = A.locs ++ L ∧ B.cells = A.cells + rm.cells ∧ B.slots = A.slots + rm.slots) := by
  refine BackS.of_freeW (bytes := bytes) (maxL := maxL) (ret := ret) (E := fun _ _ o t L k n => k = rm.cells ∧ n = rm.slots ∧ ∃ v, o = .returned v ∧ Q v t.vm t.heap L) hM hf hl ?_ ?_ ?_ ?_ ?_
  · intro m meth c A a Y hp
    have hU : Z.Warmed39 A.U.vm := wtrans hZ Y.warmed
    refine ⟨?_, mv hU wc, mv hU wz, hp.2.2.1, hp.2.2.2⟩
    show (Cond.and _ .tt).before a A.U = true
    rw [Cond.before_and, mv hU wc]; rfl
  · intro m meth c A a g mk Y hp
    exact ⟨hp.1, wtrans hZ Y.warmed, Y.warmed, hp.2.1⟩
  · intros; trivial
  · intro _ _ _ _ q
    obtain ⟨v, L, h1, h2, h3⟩ := q
    exact ⟨L, _, _, h3, rfl, rfl, v, h1, h2⟩
  · intro m meth c A a g mk v t L k n Y hp _ _ q
    obtain ⟨e1, e2, v', e3, e4⟩ := q
    cases e3
    subst e1 e2
    exact ⟨L, e4, rfl, rfl, rfl⟩
def own_dig (bs : List Int32) (j : Int32) : Int32 := nar .char (own_cat bs j)
def own_QS (Z : State) (own : String) (idx : Nat) (text : String) (Ts : List String) (bs : List Int32) (u0 : Int32) (h0 : Heap) (n0 : Nat) (v : Option Value) (vm : Vm) (h : Heap) (L : List Loc) : Prop := v = some (.int (own_dig bs u0)) ∧ Fr n0 L ∧ Ext h0 h ∧ IB Z vm (text :: Ts) ∧ ∃ (a b : Addr) (k : ClassId), Lit (Z.setVm vm) own idx a ∧ Exa Z h a "java/lang/String" ∧ Fld Z h a "java/lang/String" "coder" "B" (.int (0 : Int32)) ∧ Fld Z h a "java/lang/String" "value" "[B" (.ref b) ∧ Arv Z h b k .byte (16 : Int32) (bs.map Value.int) (.int (0 : Int32))
def own_QA (bs : List Int32) (u0 : Int32) (h0 : Heap) (n0 : Nat) (v : Option Value) (vm : Vm) (h : Heap) (L : List Loc) : Prop := v = some (.int (own_dig bs u0)) ∧ Fr n0 L ∧ h = h0
theorem d1_0 : decode method_2_code 0 = .ok (.ldc 7, 2) := by decide +kernel
theorem d1_2 : decode method_2_code 2 = .ok (.iload_n 0, 1) := by decide +kernel
theorem d1_3 : decode method_2_code 3 = .ok (.invokevirtual 9, 3) := by decide +kernel
theorem d1_6 : decode method_2_code 6 = .ok (.ireturn, 1) := by decide +kernel
theorem own_pn4 : plainName "com/example/handler/handler/HttpSyntaxHexValuePinLaw" = true := by first | (simp [plainName, overriddenIn]; done) | decide +kernel
theorem ef_1 (m : MethodId) (x0 : Int32) : entryFrame m #[(.int x0)] 1 = mkF m 0 #[.val (.int x0)] [] := by first | (simp [entryFrame, mkF, argsToLocals, Value.category]; done) | rfl
set_option maxRecDepth 65536 in
set_option maxHeartbeats 40000000 in
theorem rm1c (l : Launch) (Z : State) (a0 : Array Value) (hw : ∀ d ∈ tables_1, d.before a0 Z = true) (ws : List Jvm.Cond) (BB : State) (Ts : List String) (u0 : Int32) (fv : Value) (G1 : Int32) (h0 : Heap) (n0 : Nat) (Z0 : n0 ≤ h0.size) (S1 : Sta Z h0 "java/lang/String" "COMPACT_STRINGS" "Z" (.int G1)) (hG : ¬ (G1 = (0 : Int32))) (S3 : Sta Z h0 "jdk/internal/util/Preconditions" "SIOOBE_FORMATTER" "Ljava/util/function/BiFunction;" fv) (rG : fv.isRef = true) (hj0 : ¬ (u0 < (0 : Int32))) (hj1 : u0 < (16 : Int32)) (hcw : Jvm.Lit.compactW.before a0 Z = true) (hc : Jvm.Lit.constHeld Z "com/example/handler/handler/HttpSyntaxHexValuePinLaw" 7) (hOld : Ext Z.heap h0) (hI : IB Z BB.vm Ts) (hnot : "0123456789abcdef" ∉ Ts) :
    MetFree l (⟨"com/example/handler/handler/HttpSyntaxHexValuePinLaw", "lowerDigit", "(I)C"⟩ : MethodName) (head1 (Jvm.Cond.code (⟨"com/example/handler/handler/HttpSyntaxHexValuePinLaw", "lowerDigit", "(I)C"⟩ : MethodName) method_2_code 1 (some .char) :: ws) ({ frames := 4, cells := 2, slots := 68, locals := 90 } : Room)) (fun a U => a = #[(.int u0)] ∧ Z.Warmed39 U.vm ∧ BB.WarmedH U.vm ∧ U.heap = h0) (fun _ _ _ _ _ => True) (fun _ U o U' => ∃ v L, o = .returned v ∧ own_QS Z "com/example/handler/handler/HttpSyntaxHexValuePinLaw" 7 "0123456789abcdef" Ts own_lo u0 h0 n0 v U'.vm U'.heap L ∧ ReturnedEndW U o U' L ({ frames := 4, cells := 2, slots := 68, locals := 90 } : Room).cells ({ frames := 4, cells := 2, slots := 68, locals := 90 } : Room).slots) := by
  refine MetFree.of_bodySF (plainFor_of_name own_pn4) hisR ?_
  intro p e s m args below meth c s₁ Bd hml0 hP hK
  obtain ⟨rfl, hZ, hBW, hh⟩ := hP
  have hx := Bd.exec
  have hby := Bd.bytes
  have hml : c.maxLocals = 1 := hml0
  have hown : s.vm.findClass "com/example/handler/handler/HttpSyntaxHexValuePinLaw" = some m.cls := findClass_of_methodNamed Bd.named
  have X0 : Stand p l e ({ frames := 4, cells := 2, slots := 68, locals := 90 } : Room) (s.setVm s.vm) m #[(.int u0)] below meth c s₁ [] 0 0 := Stand.of_body Bd
  have e0 : s₁.heap = h0 := by rw [← hh, Bd.state]; rfl
  have N0 := Fr.nil n0
  have hwS : ∀ d ∈ Bundle.stringAtoms, d.before a0 Z = true := fun d hd => hw d (own_atoms d hd)
  refine own_in ?_
  refine own_st (fun _ k => castTop (ef_1 m u0) k) ?_
  have K0 : Keep h0 h0 [] := Keep.refl h0 []
  show own_Go _ _ _ _ (s₁.setTop (mkF m 0 #[.val (.int u0)] []))
  have hI0 : IB Z s.vm Ts := own_ib hI hBW.interned_eq
  obtain ⟨a1, T1, h1, kc1, b1, k1, X1, e1, E1, hS1, hk1, hZ, hown, A1, Fc1, Fv1, V1, la1, lb1, IB1, Li1, st1⟩ := ldcSVL (s := s) (vm0 := s.vm) X0 hx hZ hown (hw _ (List.mem_of_getElem? (i := 4) rfl)) hwS e0 ((State.WarmedH.refl s).since h0.size) (Nat.le_refl _) (Fr.nil _) (fun b cl q => by rw [hh]; exact hOld.2 b cl q) hI0 hnot hc hcw (vs := own_lo.map Value.int) (z := (16 : Int32)) ⟨by decide, by rfl⟩ (by decide) (by decide) (g := (mkF m 0 #[.val (.int u0)] [])) rfl (hb hby d1_0) (n := 64) (by decide) (by decide) (by decide) (by decide)
  have hS : s.Since T1.vm h1.size := own_smono hS1 hk1
  have hk : h1.size ≤ h1.size := Nat.le_refl _
  refine own_st st1 ?_
  have x1_S_java_lang_String_COMPACT_STRINGS := S1.ext E1
  have x1_S_jdk_internal_util_Preconditions_SIOOBE_FORMATTER := S3.ext E1
  have Z1 : n0 ≤ h1.size := Nat.le_trans Z0 E1.1
  show own_Go _ _ _ _ (T1.setTop (mkF m 2 #[.val (.int u0)] [(.ref a1)]))
  refine own_st (fun _ k => XS.iloadN X1.here hx rfl (hb hby d1_2) rfl k) ?_
  show own_Go _ _ _ _ (T1.setTop (mkF m 3 #[.val (.int u0)] [(.int u0), (.ref a1)]))
  obtain ⟨cq26, kq26, q26a, q26b, q26c⟩ := isOf hZ e1 A1
  obtain ⟨_, _, ⟨T26, L26, k26, n26⟩, -, X26, ⟨Lc26, hQ26, l26, y26, z26⟩, st26⟩ := X1.virtualBack hx (y := (⟨"java/lang/String", "charAt", "(I)C"⟩ : MethodName)) (z := (⟨"java/lang/String", "charAt", "(I)C"⟩ : MethodName)) hown (mvT hZ (hw _ (List.mem_of_getElem? (i := 12) rfl))) (mvT hZ (hw _ (List.mem_of_getElem? (i := 13) rfl))) (notFace_of_selects (args := #[]) (mvT hZ (hw _ (List.mem_of_getElem? (i := 15) rfl)))) (mvT hZ (hw _ (List.mem_of_getElem? (i := 15) rfl))) (mvT hZ (hw _ (List.mem_of_getElem? (i := 14) rfl))) (by decide) (backOf (W := 0) (rm2 l Z a0 hw [] a1 b1 k1 own_lo u0 fv G1 h1 n0 Z1 x1_S_java_lang_String_COMPACT_STRINGS hG x1_S_jdk_internal_util_Preconditions_SIOOBE_FORMATTER rG A1 Fc1 Fv1 V1 hj0 hj1) hZ (hw _ (List.mem_of_getElem? (i := 16) rfl)) (hw _ (List.mem_of_getElem? (i := 5) rfl)) (by decide) (by decide)) q26a q26c (g := (mkF m 3 #[.val (.int u0)] [(.int u0), (.ref a1)])) rfl (by rw [hml]; rfl) (Steps.refl _) (argsL := [(.int u0)]) (rest := []) (lenOf own_pd4 rfl) rfl (by show 2 * 0 + _ ≤ _; exact Nat.le_of_eq rfl) (hb hby d1_3) (fun _ _ => ⟨rfl, e1, (by decide : 2 + 0 ≤ _), (by decide : 68 + 0 ≤ _)⟩)
  dsimp only [Pt.U, Pt.locs, Pt.cells, Pt.slots] at X26 l26 y26 z26 st26 hQ26
  rw [l26, y26, z26] at X26
  obtain ⟨rfl, Nq26, eq26⟩ := hQ26
  have N26 := Fr.app N0 Nq26
  refine own_tr st26 ?_
  show own_Go _ _ _ _ (T26.setTop (mkF m 6 #[.val (.int u0)] [(.int (own_cat own_lo u0))]))
  obtain ⟨fs, hr, hrun, hended, hEnd⟩ := X26.leaveW (s := s) (vm₁ := T1.vm) hS (by rw [eq26]; exact hk) (v := some (.int (nar .char (own_cat own_lo u0)))) (fun h => by rw [Bd.returns] at h; cases h)
  refine own_out (retN X26 hx (t := .char) Bd.returns (by simp) (hb hby d1_6) hr) ⟨hrun, hended, _, _, rfl, ?_, hEnd.1, hEnd.2.1, hEnd.2.2.1, hEnd.2.2.2.mono (by decide) (by decide)⟩
  show own_QS Z "com/example/handler/handler/HttpSyntaxHexValuePinLaw" 7 "0123456789abcdef" Ts own_lo u0 h0 n0 _ T26.vm T26.heap _
  have hIB := own_ib IB1 X26.warmed.interned_eq
  have hLi : Lit (Z.setVm T26.vm) "com/example/handler/handler/HttpSyntaxHexValuePinLaw" 7 a1 := Lit.stays Li1 X26.warmed.wide
  rw [eq26]
  exact ⟨rfl, N26, E1, hIB, a1, b1, k1, hLi, A1, Fc1, Fv1, V1⟩
set_option maxRecDepth 65536 in
set_option maxHeartbeats 40000000 in
theorem rm1a (l : Launch) (Z : State) (a0 : Array Value) (hw : ∀ d ∈ tables_1, d.before a0 Z = true) (ws : List Jvm.Cond) (BB : State) (aS : Addr) (bS : Addr) (kS : ClassId) (u0 : Int32) (fv : Value) (G1 : Int32) (h0 : Heap) (n0 : Nat) (Z0 : n0 ≤ h0.size) (S1 : Sta Z h0 "java/lang/String" "COMPACT_STRINGS" "Z" (.int G1)) (hG : ¬ (G1 = (0 : Int32))) (S3 : Sta Z h0 "jdk/internal/util/Preconditions" "SIOOBE_FORMATTER" "Ljava/util/function/BiFunction;" fv) (rG : fv.isRef = true) (hj0 : ¬ (u0 < (0 : Int32))) (hj1 : u0 < (16 : Int32)) (hL : Lit BB "com/example/handler/handler/HttpSyntaxHexValuePinLaw" 7 aS) (A0 : Exa Z h0 aS "java/lang/String") (Fc0 : Fld Z h0 aS "java/lang/String" "coder" "B" (.int (0 : Int32))) (Fv0 : Fld Z h0 aS "java/lang/String" "value" "[B" (.ref bS)) (V0 : Arv Z h0 bS kS .byte (16 : Int32) (own_lo.map Value.int) (.int (0 : Int32))) :
    MetFree l (⟨"com/example/handler/handler/HttpSyntaxHexValuePinLaw", "lowerDigit", "(I)C"⟩ : MethodName) (head1 (Jvm.Cond.code (⟨"com/example/handler/handler/HttpSyntaxHexValuePinLaw", "lowerDigit", "(I)C"⟩ : MethodName) method_2_code 1 (some .char) :: ws) ({ frames := 4, cells := 0, slots := 0, locals := 90 } : Room)) (fun a U => a = #[(.int u0)] ∧ Z.Warmed39 U.vm ∧ BB.WarmedH U.vm ∧ U.heap = h0) (fun _ _ _ _ _ => True) (fun _ U o U' => ∃ v L, o = .returned v ∧ own_QA own_lo u0 h0 n0 v U'.vm U'.heap L ∧ ReturnedEndW U o U' L ({ frames := 4, cells := 0, slots := 0, locals := 90 } : Room).cells ({ frames := 4, cells := 0, slots := 0, locals := 90 } : Room).slots) := by
  refine MetFree.of_bodySF (plainFor_of_name own_pn4) hisR ?_
  intro p e s m args below meth c s₁ Bd hml0 hP hK
  obtain ⟨rfl, hZ, hBW, hh⟩ := hP
  have hx := Bd.exec
  have hby := Bd.bytes
  have hml : c.maxLocals = 1 := hml0
  have hown : s.vm.findClass "com/example/handler/handler/HttpSyntaxHexValuePinLaw" = some m.cls := findClass_of_methodNamed Bd.named
  have X0 : Stand p l e ({ frames := 4, cells := 0, slots := 0, locals := 90 } : Room) (s.setVm s.vm) m #[(.int u0)] below meth c s₁ [] 0 0 := Stand.of_body Bd
  have e0 : s₁.heap = h0 := by rw [← hh, Bd.state]; rfl
  have N0 := Fr.nil n0
  have hwS : ∀ d ∈ Bundle.stringAtoms, d.before a0 Z = true := fun d hd => hw d (own_atoms d hd)
  refine own_in ?_
  refine own_st (fun _ k => castTop (ef_1 m u0) k) ?_
  have K0 : Keep h0 h0 [] := Keep.refl h0 []
  show own_Go _ _ _ _ (s₁.setTop (mkF m 0 #[.val (.int u0)] []))
  have L0 : Lit (s.setVm s.vm) "com/example/handler/handler/HttpSyntaxHexValuePinLaw" 7 aS := State.resolvedAt?_warmed39 (s := BB) hBW.wide hL
  have hS : s.Since s.vm h0.size := (State.WarmedH.refl s).since h0.size
  have hk : h0.size ≤ h0.size := Nat.le_refl _
  refine own_st (ldcAgain (s := s) (vm0 := s.vm) X0 hx hZ hown (hw _ (List.mem_of_getElem? (i := 4) rfl)) L0 (g := (mkF m 0 #[.val (.int u0)] [])) rfl (hb hby d1_0)) ?_
  show own_Go _ _ _ _ (s₁.setTop (mkF m 2 #[.val (.int u0)] [(.ref aS)]))
  refine own_st (fun _ k => XS.iloadN X0.here hx rfl (hb hby d1_2) rfl k) ?_
  show own_Go _ _ _ _ (s₁.setTop (mkF m 3 #[.val (.int u0)] [(.int u0), (.ref aS)]))
  obtain ⟨cq27, kq27, q27a, q27b, q27c⟩ := isOf hZ e0 A0
  obtain ⟨_, _, ⟨T27, L27, k27, n27⟩, -, X27, ⟨Lc27, hQ27, l27, y27, z27⟩, st27⟩ := X0.virtualBack hx (y := (⟨"java/lang/String", "charAt", "(I)C"⟩ : MethodName)) (z := (⟨"java/lang/String", "charAt", "(I)C"⟩ : MethodName)) hown (mvT hZ (hw _ (List.mem_of_getElem? (i := 12) rfl))) (mvT hZ (hw _ (List.mem_of_getElem? (i := 13) rfl))) (notFace_of_selects (args := #[]) (mvT hZ (hw _ (List.mem_of_getElem? (i := 15) rfl)))) (mvT hZ (hw _ (List.mem_of_getElem? (i := 15) rfl))) (mvT hZ (hw _ (List.mem_of_getElem? (i := 14) rfl))) (by decide) (backOf (W := 0) (rm2 l Z a0 hw [] aS bS kS own_lo u0 fv G1 h0 n0 Z0 S1 hG S3 rG A0 Fc0 Fv0 V0 hj0 hj1) hZ (hw _ (List.mem_of_getElem? (i := 16) rfl)) (hw _ (List.mem_of_getElem? (i := 5) rfl)) (by decide) (by decide)) q27a q27c (g := (mkF m 3 #[.val (.int u0)] [(.int u0), (.ref aS)])) rfl (by rw [hml]; rfl) (Steps.refl _) (argsL := [(.int u0)]) (rest := []) (lenOf own_pd4 rfl) rfl (by show 2 * 0 + _ ≤ _; exact Nat.le_of_eq rfl) (hb hby d1_3) (fun _ _ => ⟨rfl, e0, (by decide : 0 + 0 ≤ _), (by decide : 0 + 0 ≤ _)⟩)
  dsimp only [Pt.U, Pt.locs, Pt.cells, Pt.slots] at X27 l27 y27 z27 st27 hQ27
  rw [l27, y27, z27] at X27
  obtain ⟨rfl, Nq27, eq27⟩ := hQ27
  have N27 := Fr.app N0 Nq27
  refine own_tr st27 ?_
  show own_Go _ _ _ _ (T27.setTop (mkF m 6 #[.val (.int u0)] [(.int (own_cat own_lo u0))]))
  obtain ⟨fs, hr, hrun, hended, hEnd⟩ := X27.leaveW (s := s) (vm₁ := s.vm) hS (by rw [eq27]; exact hk) (v := some (.int (nar .char (own_cat own_lo u0)))) (fun h => by rw [Bd.returns] at h; cases h)
  refine own_out (retN X27 hx (t := .char) Bd.returns (by simp) (hb hby d1_6) hr) ⟨hrun, hended, _, _, rfl, ?_, hEnd.1, hEnd.2.1, hEnd.2.2.1, hEnd.2.2.2.mono (by decide) (by decide)⟩
  show own_QA own_lo u0 h0 n0 _ T27.vm T27.heap _
  exact ⟨rfl, N27, eq27⟩
theorem d7_0 : decode method_3_code 0 = .ok (.ldc 15, 2) := by decide +kernel
theorem d7_2 : decode method_3_code 2 = .ok (.iload_n 0, 1) := by decide +kernel
theorem d7_3 : decode method_3_code 3 = .ok (.invokevirtual 9, 3) := by decide +kernel
theorem d7_6 : decode method_3_code 6 = .ok (.ireturn, 1) := by decide +kernel
theorem ef_7 (m : MethodId) (x0 : Int32) : entryFrame m #[(.int x0)] 1 = mkF m 0 #[.val (.int x0)] [] := by first | (simp [entryFrame, mkF, argsToLocals, Value.category]; done) | rfl
set_option maxRecDepth 65536 in
set_option maxHeartbeats 40000000 in
theorem rm7c (l : Launch) (Z : State) (a0 : Array Value) (hw : ∀ d ∈ tables_1, d.before a0 Z = true) (ws : List Jvm.Cond) (BB : State) (Ts : List String) (u0 : Int32) (fv : Value) (G1 : Int32) (h0 : Heap) (n0 : Nat) (Z0 : n0 ≤ h0.size) (S1 : Sta Z h0 "java/lang/String" "COMPACT_STRINGS" "Z" (.int G1)) (hG : ¬ (G1 = (0 : Int32))) (S3 : Sta Z h0 "jdk/internal/util/Preconditions" "SIOOBE_FORMATTER" "Ljava/util/function/BiFunction;" fv) (rG : fv.isRef = true) (hj0 : ¬ (u0 < (0 : Int32))) (hj1 : u0 < (16 : Int32)) (hcw : Jvm.Lit.compactW.before a0 Z = true) (hc : Jvm.Lit.constHeld Z "com/example/handler/handler/HttpSyntaxHexValuePinLaw" 15) (hOld : Ext Z.heap h0) (hI : IB Z BB.vm Ts) (hnot : "0123456789ABCDEF" ∉ Ts) :
    MetFree l (⟨"com/example/handler/handler/HttpSyntaxHexValuePinLaw", "upperDigit", "(I)C"⟩ : MethodName) (head1 (Jvm.Cond.code (⟨"com/example/handler/handler/HttpSyntaxHexValuePinLaw", "upperDigit", "(I)C"⟩ : MethodName) method_3_code 1 (some .char) :: ws) ({ frames := 4, cells := 2, slots := 68, locals := 90 } : Room)) (fun a U => a = #[(.int u0)] ∧ Z.Warmed39 U.vm ∧ BB.WarmedH U.vm ∧ U.heap = h0) (fun _ _ _ _ _ => True) (fun _ U o U' => ∃ v L, o = .returned v ∧ own_QS Z "com/example/handler/handler/HttpSyntaxHexValuePinLaw" 15 "0123456789ABCDEF" Ts own_up u0 h0 n0 v U'.vm U'.heap L ∧ ReturnedEndW U o U' L ({ frames := 4, cells := 2, slots := 68, locals := 90 } : Room).cells ({ frames := 4, cells := 2, slots := 68, locals := 90 } : Room).slots) := by
  refine MetFree.of_bodySF (plainFor_of_name own_pn4) hisR ?_
  intro p e s m args below meth c s₁ Bd hml0 hP hK
  obtain ⟨rfl, hZ, hBW, hh⟩ := hP
  have hx := Bd.exec
  have hby := Bd.bytes
  have hml : c.maxLocals = 1 := hml0
  have hown : s.vm.findClass "com/example/handler/handler/HttpSyntaxHexValuePinLaw" = some m.cls := findClass_of_methodNamed Bd.named
  have X0 : Stand p l e ({ frames := 4, cells := 2, slots := 68, locals := 90 } : Room) (s.setVm s.vm) m #[(.int u0)] below meth c s₁ [] 0 0 := Stand.of_body Bd
  have e0 : s₁.heap = h0 := by rw [← hh, Bd.state]; rfl
  have N0 := Fr.nil n0
  have hwS : ∀ d ∈ Bundle.stringAtoms, d.before a0 Z = true := fun d hd => hw d (own_atoms d hd)
  refine own_in ?_
  refine own_st (fun _ k => castTop (ef_7 m u0) k) ?_
  have K0 : Keep h0 h0 [] := Keep.refl h0 []
  show own_Go _ _ _ _ (s₁.setTop (mkF m 0 #[.val (.int u0)] []))
  have hI0 : IB Z s.vm Ts := own_ib hI hBW.interned_eq
  obtain ⟨a1, T1, h1, kc1, b1, k1, X1, e1, E1, hS1, hk1, hZ, hown, A1, Fc1, Fv1, V1, la1, lb1, IB1, Li1, st1⟩ := ldcSVL (s := s) (vm0 := s.vm) X0 hx hZ hown (hw _ (List.mem_of_getElem? (i := 40) rfl)) hwS e0 ((State.WarmedH.refl s).since h0.size) (Nat.le_refl _) (Fr.nil _) (fun b cl q => by rw [hh]; exact hOld.2 b cl q) hI0 hnot hc hcw (vs := own_up.map Value.int) (z := (16 : Int32)) ⟨by decide, by rfl⟩ (by decide) (by decide) (g := (mkF m 0 #[.val (.int u0)] [])) rfl (hb hby d7_0) (n := 64) (by decide) (by decide) (by decide) (by decide)
  have hS : s.Since T1.vm h1.size := own_smono hS1 hk1
  have hk : h1.size ≤ h1.size := Nat.le_refl _
  refine own_st st1 ?_
  have x1_S_java_lang_String_COMPACT_STRINGS := S1.ext E1
  have x1_S_jdk_internal_util_Preconditions_SIOOBE_FORMATTER := S3.ext E1
  have Z1 : n0 ≤ h1.size := Nat.le_trans Z0 E1.1
  show own_Go _ _ _ _ (T1.setTop (mkF m 2 #[.val (.int u0)] [(.ref a1)]))
  refine own_st (fun _ k => XS.iloadN X1.here hx rfl (hb hby d7_2) rfl k) ?_
  show own_Go _ _ _ _ (T1.setTop (mkF m 3 #[.val (.int u0)] [(.int u0), (.ref a1)]))
  obtain ⟨cq28, kq28, q28a, q28b, q28c⟩ := isOf hZ e1 A1
  obtain ⟨_, _, ⟨T28, L28, k28, n28⟩, -, X28, ⟨Lc28, hQ28, l28, y28, z28⟩, st28⟩ := X1.virtualBack hx (y := (⟨"java/lang/String", "charAt", "(I)C"⟩ : MethodName)) (z := (⟨"java/lang/String", "charAt", "(I)C"⟩ : MethodName)) hown (mvT hZ (hw _ (List.mem_of_getElem? (i := 12) rfl))) (mvT hZ (hw _ (List.mem_of_getElem? (i := 13) rfl))) (notFace_of_selects (args := #[]) (mvT hZ (hw _ (List.mem_of_getElem? (i := 15) rfl)))) (mvT hZ (hw _ (List.mem_of_getElem? (i := 15) rfl))) (mvT hZ (hw _ (List.mem_of_getElem? (i := 14) rfl))) (by decide) (backOf (W := 0) (rm2 l Z a0 hw [] a1 b1 k1 own_up u0 fv G1 h1 n0 Z1 x1_S_java_lang_String_COMPACT_STRINGS hG x1_S_jdk_internal_util_Preconditions_SIOOBE_FORMATTER rG A1 Fc1 Fv1 V1 hj0 hj1) hZ (hw _ (List.mem_of_getElem? (i := 16) rfl)) (hw _ (List.mem_of_getElem? (i := 5) rfl)) (by decide) (by decide)) q28a q28c (g := (mkF m 3 #[.val (.int u0)] [(.int u0), (.ref a1)])) rfl (by rw [hml]; rfl) (Steps.refl _) (argsL := [(.int u0)]) (rest := []) (lenOf own_pd4 rfl) rfl (by show 2 * 0 + _ ≤ _; exact Nat.le_of_eq rfl) (hb hby d7_3) (fun _ _ => ⟨rfl, e1, (by decide : 2 + 0 ≤ _), (by decide : 68 + 0 ≤ _)⟩)
  dsimp only [Pt.U, Pt.locs, Pt.cells, Pt.slots] at X28 l28 y28 z28 st28 hQ28
  rw [l28, y28, z28] at X28
  obtain ⟨rfl, Nq28, eq28⟩ := hQ28
  have N28 := Fr.app N0 Nq28
  refine own_tr st28 ?_
  show own_Go _ _ _ _ (T28.setTop (mkF m 6 #[.val (.int u0)] [(.int (own_cat own_up u0))]))
  obtain ⟨fs, hr, hrun, hended, hEnd⟩ := X28.leaveW (s := s) (vm₁ := T1.vm) hS (by rw [eq28]; exact hk) (v := some (.int (nar .char (own_cat own_up u0)))) (fun h => by rw [Bd.returns] at h; cases h)
  refine own_out (retN X28 hx (t := .char) Bd.returns (by simp) (hb hby d7_6) hr) ⟨hrun, hended, _, _, rfl, ?_, hEnd.1, hEnd.2.1, hEnd.2.2.1, hEnd.2.2.2.mono (by decide) (by decide)⟩
  show own_QS Z "com/example/handler/handler/HttpSyntaxHexValuePinLaw" 15 "0123456789ABCDEF" Ts own_up u0 h0 n0 _ T28.vm T28.heap _
  have hIB := own_ib IB1 X28.warmed.interned_eq
  have hLi : Lit (Z.setVm T28.vm) "com/example/handler/handler/HttpSyntaxHexValuePinLaw" 15 a1 := Lit.stays Li1 X28.warmed.wide
  rw [eq28]
  exact ⟨rfl, N28, E1, hIB, a1, b1, k1, hLi, A1, Fc1, Fv1, V1⟩
set_option maxRecDepth 65536 in
set_option maxHeartbeats 40000000 in
theorem rm7a (l : Launch) (Z : State) (a0 : Array Value) (hw : ∀ d ∈ tables_1, d.before a0 Z = true) (ws : List Jvm.Cond) (BB : State) (aS : Addr) (bS : Addr) (kS : ClassId) (u0 : Int32) (fv : Value) (G1 : Int32) (h0 : Heap) (n0 : Nat) (Z0 : n0 ≤ h0.size) (S1 : Sta Z h0 "java/lang/String" "COMPACT_STRINGS" "Z" (.int G1)) (hG : ¬ (G1 = (0 : Int32))) (S3 : Sta Z h0 "jdk/internal/util/Preconditions" "SIOOBE_FORMATTER" "Ljava/util/function/BiFunction;" fv) (rG : fv.isRef = true) (hj0 : ¬ (u0 < (0 : Int32))) (hj1 : u0 < (16 : Int32)) (hL : Lit BB "com/example/handler/handler/HttpSyntaxHexValuePinLaw" 15 aS) (A0 : Exa Z h0 aS "java/lang/String") (Fc0 : Fld Z h0 aS "java/lang/String" "coder" "B" (.int (0 : Int32))) (Fv0 : Fld Z h0 aS "java/lang/String" "value" "[B" (.ref bS)) (V0 : Arv Z h0 bS kS .byte (16 : Int32) (own_up.map Value.int) (.int (0 : Int32))) :
    MetFree l (⟨"com/example/handler/handler/HttpSyntaxHexValuePinLaw", "upperDigit", "(I)C"⟩ : MethodName) (head1 (Jvm.Cond.code (⟨"com/example/handler/handler/HttpSyntaxHexValuePinLaw", "upperDigit", "(I)C"⟩ : MethodName) method_3_code 1 (some .char) :: ws) ({ frames := 4, cells := 0, slots := 0, locals := 90 } : Room)) (fun a U => a = #[(.int u0)] ∧ Z.Warmed39 U.vm ∧ BB.WarmedH U.vm ∧ U.heap = h0) (fun _ _ _ _ _ => True) (fun _ U o U' => ∃ v L, o = .returned v ∧ own_QA own_up u0 h0 n0 v U'.vm U'.heap L ∧ ReturnedEndW U o U' L ({ frames := 4, cells := 0, slots := 0, locals := 90 } : Room).cells ({ frames := 4, cells := 0, slots := 0, locals := 90 } : Room).slots) := by
  refine MetFree.of_bodySF (plainFor_of_name own_pn4) hisR ?_
  intro p e s m args below meth c s₁ Bd hml0 hP hK
  obtain ⟨rfl, hZ, hBW, hh⟩ := hP
  have hx := Bd.exec
  have hby := Bd.bytes
  have hml : c.maxLocals = 1 := hml0
  have hown : s.vm.findClass "com/example/handler/handler/HttpSyntaxHexValuePinLaw" = some m.cls := findClass_of_methodNamed Bd.named
  have X0 : Stand p l e ({ frames := 4, cells := 0, slots := 0, locals := 90 } : Room) (s.setVm s.vm) m #[(.int u0)] below meth c s₁ [] 0 0 := Stand.of_body Bd
  have e0 : s₁.heap = h0 := by rw [← hh, Bd.state]; rfl
  have N0 := Fr.nil n0
  have hwS : ∀ d ∈ Bundle.stringAtoms, d.before a0 Z = true := fun d hd => hw d (own_atoms d hd)
  refine own_in ?_
  refine own_st (fun _ k => castTop (ef_7 m u0) k) ?_
  have K0 : Keep h0 h0 [] := Keep.refl h0 []
  show own_Go _ _ _ _ (s₁.setTop (mkF m 0 #[.val (.int u0)] []))
  have L0 : Lit (s.setVm s.vm) "com/example/handler/handler/HttpSyntaxHexValuePinLaw" 15 aS := State.resolvedAt?_warmed39 (s := BB) hBW.wide hL
  have hS : s.Since s.vm h0.size := (State.WarmedH.refl s).since h0.size
  have hk : h0.size ≤ h0.size := Nat.le_refl _
  refine own_st (ldcAgain (s := s) (vm0 := s.vm) X0 hx hZ hown (hw _ (List.mem_of_getElem? (i := 40) rfl)) L0 (g := (mkF m 0 #[.val (.int u0)] [])) rfl (hb hby d7_0)) ?_
  show own_Go _ _ _ _ (s₁.setTop (mkF m 2 #[.val (.int u0)] [(.ref aS)]))
  refine own_st (fun _ k => XS.iloadN X0.here hx rfl (hb hby d7_2) rfl k) ?_
  show own_Go _ _ _ _ (s₁.setTop (mkF m 3 #[.val (.int u0)] [(.int u0), (.ref aS)]))
  obtain ⟨cq29, kq29, q29a, q29b, q29c⟩ := isOf hZ e0 A0
  obtain ⟨_, _, ⟨T29, L29, k29, n29⟩, -, X29, ⟨Lc29, hQ29, l29, y29, z29⟩, st29⟩ := X0.virtualBack hx (y := (⟨"java/lang/String", "charAt", "(I)C"⟩ : MethodName)) (z := (⟨"java/lang/String", "charAt", "(I)C"⟩ : MethodName)) hown (mvT hZ (hw _ (List.mem_of_getElem? (i := 12) rfl))) (mvT hZ (hw _ (List.mem_of_getElem? (i := 13) rfl))) (notFace_of_selects (args := #[]) (mvT hZ (hw _ (List.mem_of_getElem? (i := 15) rfl)))) (mvT hZ (hw _ (List.mem_of_getElem? (i := 15) rfl))) (mvT hZ (hw _ (List.mem_of_getElem? (i := 14) rfl))) (by decide) (backOf (W := 0) (rm2 l Z a0 hw [] aS bS kS own_up u0 fv G1 h0 n0 Z0 S1 hG S3 rG A0 Fc0 Fv0 V0 hj0 hj1) hZ (hw _ (List.mem_of_getElem? (i := 16) rfl)) (hw _ (List.mem_of_getElem? (i := 5) rfl)) (by decide) (by decide)) q29a q29c (g := (mkF m 3 #[.val (.int u0)] [(.int u0), (.ref aS)])) rfl (by rw [hml]; rfl) (Steps.refl _) (argsL := [(.int u0)]) (rest := []) (lenOf own_pd4 rfl) rfl (by show 2 * 0 + _ ≤ _; exact Nat.le_of_eq rfl) (hb hby d7_3) (fun _ _ => ⟨rfl, e0, (by decide : 0 + 0 ≤ _), (by decide : 0 + 0 ≤ _)⟩)
  dsimp only [Pt.U, Pt.locs, Pt.cells, Pt.slots] at X29 l29 y29 z29 st29 hQ29
  rw [l29, y29, z29] at X29
  obtain ⟨rfl, Nq29, eq29⟩ := hQ29
  have N29 := Fr.app N0 Nq29
  refine own_tr st29 ?_
  show own_Go _ _ _ _ (T29.setTop (mkF m 6 #[.val (.int u0)] [(.int (own_cat own_up u0))]))
  obtain ⟨fs, hr, hrun, hended, hEnd⟩ := X29.leaveW (s := s) (vm₁ := s.vm) hS (by rw [eq29]; exact hk) (v := some (.int (nar .char (own_cat own_up u0)))) (fun h => by rw [Bd.returns] at h; cases h)
  refine own_out (retN X29 hx (t := .char) Bd.returns (by simp) (hb hby d7_6) hr) ⟨hrun, hended, _, _, rfl, ?_, hEnd.1, hEnd.2.1, hEnd.2.2.1, hEnd.2.2.2.mono (by decide) (by decide)⟩
  show own_QA own_up u0 h0 n0 _ T29.vm T29.heap _
  exact ⟨rfl, N29, eq29⟩
theorem own_d0 (u : Int32) : ¬ (u &&& (15 : Int32)) < (0 : Int32) := by
  have m := c_mask u 15 4 (by decide) (by decide)
  simp only [Int32.lt_iff_toInt_lt, Int32.reduceToInt]; omega
theorem own_d1 (u : Int32) : (u &&& (15 : Int32)) < (16 : Int32) := by
  have m := c_mask u 15 4 (by decide) (by decide)
  simp only [Int32.lt_iff_toInt_lt, Int32.reduceToInt]; omega
theorem own_tab : ∀ n, n < 16 → own_hx (own_dig own_lo (Int32.ofNat n)) = Int32.ofNat n ∧ own_hx (own_dig own_up (Int32.ofNat n)) = Int32.ofNat n := by decide +kernel
theorem own_rt (d : Int32) (h0 : ¬ d < (0 : Int32)) (h1 : d < (16 : Int32)) : own_hx (own_dig own_lo d) = d ∧ own_hx (own_dig own_up d) = d := by
  have e : Int32.ofNat d.toNatClampNeg = d := (back32 h0).1
  have hlt : d.toNatClampNeg < 16 := by
    have := nat_of h0
    simp only [Int32.lt_iff_toInt_lt, Int32.reduceToInt] at h1
    omega
  have t := own_tab _ hlt
  rw [e] at t; exact t
def own_S (c : Int32) : Prop := (¬ own_hx c < (0 : Int32) ∧ own_hx c < (16 : Int32)) ∧ (c = own_dig own_lo (own_hx c) ∨ c = own_dig own_up (own_hx c))
theorem own_t1 : ∀ n, n < 10 → own_S (Int32.ofNat (48 + n)) := by unfold own_S; decide +kernel
theorem own_t2 : ∀ n, n < 6 → own_S (Int32.ofNat (97 + n)) := by unfold own_S; decide +kernel
theorem own_t3 : ∀ n, n < 6 → own_S (Int32.ofNat (65 + n)) := by unfold own_S; decide +kernel
theorem own_rng (c : Int32) (a b : Nat) (ha : a < 1000) (hb : b < 1000) (h1 : ¬ c < Int32.ofNat a) (h2 : ¬ Int32.ofNat b < c) : ∃ n, n < b + 1 - a ∧ c = Int32.ofNat (a + n) := by
  have ea : (Int32.ofNat a).toInt = a := Int32.toInt_ofNat_small (by omega)
  have eb : (Int32.ofNat b).toInt = b := Int32.toInt_ofNat_small (by omega)
  rw [Int32.lt_iff_toInt_lt] at h1 h2
  refine ⟨c.toInt.toNat - a, by omega, ?_⟩
  apply Int32.toInt_inj.mp
  rw [Int32.toInt_ofNat_small (by omega)]
  omega
/-- what a char that is no -1 is worth, is found again -/
theorem own_sound (c : Int32) (h : ¬ own_hx c = (-1 : Int32)) : own_S c := by
  by_cases a1 : ¬ c < Int32.ofNat 48 ∧ ¬ Int32.ofNat 57 < c
  · obtain ⟨n, hn, e⟩ := own_rng c 48 57 (by decide) (by decide) a1.1 a1.2
    rw [e]; exact own_t1 n hn
  by_cases a2 : ¬ c < Int32.ofNat 97 ∧ ¬ Int32.ofNat 102 < c
  · obtain ⟨n, hn, e⟩ := own_rng c 97 102 (by decide) (by decide) a2.1 a2.2
    rw [e]; exact own_t2 n hn
  by_cases a3 : ¬ c < Int32.ofNat 65 ∧ ¬ Int32.ofNat 70 < c
  · obtain ⟨n, hn, e⟩ := own_rng c 65 70 (by decide) (by decide) a3.1 a3.2
    rw [e]; exact own_t3 n hn
  exfalso
  apply h
  have e1 : Int32.ofNat 48 = 48 := rfl
  have e2 : Int32.ofNat 57 = 57 := rfl
  have e3 : Int32.ofNat 97 = 97 := rfl
  have e4 : Int32.ofNat 102 = 102 := rfl
  have e5 : Int32.ofNat 65 = 65 := rfl
  have e6 : Int32.ofNat 70 = 70 := rfl
  rw [e1, e2] at a1
  rw [e3, e4] at a2
  rw [e5, e6] at a3
  clear e1 e2 e3 e4 e5 e6 h
  unfold own_hx
  repeat' split
  all_goals first | rfl | (exfalso; simp only [Int32.lt_iff_toInt_lt, Int32.reduceToInt] at *; omega)
theorem own_nolo (c d : Int32) (h0 : ¬ d < (0 : Int32)) (h1 : d < (16 : Int32)) (h : own_hx c = (-1 : Int32)) : ¬ c = own_dig own_lo d ∧ ¬ c = own_dig own_up d := by
  have r := own_rt d h0 h1
  constructor
  · intro q; rw [← q, h] at r; rw [← r.1] at h0; exact h0 (by decide)
  · intro q; rw [← q, h] at r; rw [← r.2] at h0; exact h0 (by decide)
theorem own_pd6 : parseMethodDescriptor "(II)Z" = some ⟨[.int, .int], some .boolean⟩ := by decide +kernel
def Q0 (Z : State) (u0 : Int32) (u1 : Int32) (h0 : Heap) (n0 : Nat) (v : Option Value) (h : Heap) (L : List Loc) : Prop := v = some (.int 1) ∧ Fr n0 L
theorem ef_0 (m : MethodId) (x0 : Int32) (x1 : Int32) : entryFrame m #[(.int x0), (.int x1)] maxLocals = mkF m 0 #[.val (.int x0), .val (.int x1), .unset, .unset, .unset, .unset, .unset, .unset, .unset] [] := by first | (simp [entryFrame, mkF, argsToLocals, Value.category, maxLocals]; done) | rfl
set_option maxRecDepth 65536 in
set_option maxHeartbeats 40000000 in
theorem rm0 (l : Launch) (Z : State) (a0 : Array Value) (hw : ∀ d ∈ tables_1, d.before a0 Z = true) (ws : List Jvm.Cond) (u0 : Int32) (u1 : Int32) (fv : Value) (G1 : Int32) (h0 : Heap) (n0 : Nat) (hh0 : Z.heap = h0) (hn0 : n0 = h0.size) (S1 : Sta Z h0 "java/lang/String" "COMPACT_STRINGS" "Z" (.int G1)) (hG : ¬ (G1 = (0 : Int32))) (S3 : Sta Z h0 "jdk/internal/util/Preconditions" "SIOOBE_FORMATTER" "Ljava/util/function/BiFunction;" fv) (rG : fv.isRef = true) (hcw : Jvm.Lit.compactW.before a0 Z = true) (hc7 : Jvm.Lit.constHeld Z "com/example/handler/handler/HttpSyntaxHexValuePinLaw" 7) (hc15 : Jvm.Lit.constHeld Z "com/example/handler/handler/HttpSyntaxHexValuePinLaw" 15) :
    MetFree l x (head1 (Jvm.Cond.code x code maxLocals ret :: ws) room_1) (fun a U => a = #[(.int u0), (.int u1)] ∧ Z = U) (fun _ _ _ _ _ => True) (fun _ U o U' => ∃ v L, o = .returned v ∧ Q0 Z u0 u1 h0 n0 v U'.heap L ∧ ReturnedEndW U o U' L 8 2112) := by
  refine MetFree.of_bodySF (plainFor_of_name own_pn4) hisR ?_
  intro p e s m args below meth c s₁ Bd hml0 hP hK
  obtain ⟨rfl, hU⟩ := hP
  subst hU
  have hx := Bd.exec
  have hby := Bd.bytes
  have hml : c.maxLocals = 9 := hml0
  have hown : Z.vm.findClass "com/example/handler/handler/HttpSyntaxHexValuePinLaw" = some m.cls := findClass_of_methodNamed Bd.named
  have hnm := (name_of_methodNamed Bd.named Bd.method).1
  have X0 : Stand p l e room_1 (Z.setVm Z.vm) m #[(.int u0), (.int u1)] below meth c s₁ [] 0 0 := Stand.of_body Bd
  have e0 : s₁.heap = h0 := by rw [← hh0, Bd.state]; rfl
  have N0 := Fr.nil n0
  have Z0 : n0 ≤ h0.size := Nat.le_of_eq hn0
  have hZ : Z.Warmed39 Z.vm := State.Warmed39.refl Z
  have hsz : Z.heap.size = n0 := by rw [hh0, hn0]
  have hS : Z.Since Z.vm h0.size := (State.WarmedH.refl Z).since _
  have hk : h0.size ≤ h0.size := Nat.le_refl _
  have IB0 : IB Z Z.vm [] := IB.start
  have hwS : ∀ d ∈ Bundle.stringAtoms, d.before a0 Z = true := fun d hd => hw d (own_atoms d hd)
  refine own_in ?_
  refine own_st (fun _ k => castTop (ef_0 m u0 u1) k) ?_
  have hOld : Ext Z.heap h0 := by rw [← hh0]; exact ⟨Nat.le_refl _, fun _ _ q => q⟩
  have K0 : Keep h0 h0 [] := Keep.refl h0 []
  show own_Go _ _ _ _ (s₁.setTop (mkF m 0 #[.val (.int u0), .val (.int u1), .unset, .unset, .unset, .unset, .unset, .unset, .unset] []))
  refine own_st (fun _ k => XS.iloadN X0.here hx rfl (hb hby at_0) rfl k) ?_
  show own_Go _ _ _ _ (s₁.setTop (mkF m 1 #[.val (.int u0), .val (.int u1), .unset, .unset, .unset, .unset, .unset, .unset, .unset] [(.int u0)]))
  refine own_st (fun _ k => XS.i2c X0.here hx rfl (hb hby at_1) rfl k) ?_
  show own_Go _ _ _ _ (s₁.setTop (mkF m 2 #[.val (.int u0), .val (.int u1), .unset, .unset, .unset, .unset, .unset, .unset, .unset] [(.int (u0.toUInt32.toUInt16.toUInt32.toInt32))]))
  refine own_st (fun _ k => XS.istoreN X0.here hx rfl (hb hby at_2) rfl (l' := #[.val (.int u0), .val (.int u1), .val (.int (u0.toUInt32.toUInt16.toUInt32.toInt32)), .unset, .unset, .unset, .unset, .unset, .unset]) rfl k) ?_
  show own_Go _ _ _ _ (s₁.setTop (mkF m 3 #[.val (.int u0), .val (.int u1), .val (.int (u0.toUInt32.toUInt16.toUInt32.toInt32)), .unset, .unset, .unset, .unset, .unset, .unset] []))
  refine own_st (fun _ k => XS.iloadN X0.here hx rfl (hb hby at_3) rfl k) ?_
  show own_Go _ _ _ _ (s₁.setTop (mkF m 4 #[.val (.int u0), .val (.int u1), .val (.int (u0.toUInt32.toUInt16.toUInt32.toInt32)), .unset, .unset, .unset, .unset, .unset, .unset] [(.int u1)]))
  refine own_st (fun _ k => XS.bipush X0.here hx rfl (hb hby at_4) k) ?_
  show own_Go _ _ _ _ (s₁.setTop (mkF m 6 #[.val (.int u0), .val (.int u1), .val (.int (u0.toUInt32.toUInt16.toUInt32.toInt32)), .unset, .unset, .unset, .unset, .unset, .unset] [(.int (15 : Int32)), (.int u1)]))
  refine own_st (fun _ k => XS.iand X0.here hx rfl (hb hby at_6) rfl k) ?_
  show own_Go _ _ _ _ (s₁.setTop (mkF m 7 #[.val (.int u0), .val (.int u1), .val (.int (u0.toUInt32.toUInt16.toUInt32.toInt32)), .unset, .unset, .unset, .unset, .unset, .unset] [(.int (u1 &&& (15 : Int32)))]))
  refine own_st (fun _ k => XS.istoreN X0.here hx rfl (hb hby at_7) rfl (l' := #[.val (.int u0), .val (.int u1), .val (.int (u0.toUInt32.toUInt16.toUInt32.toInt32)), .val (.int (u1 &&& (15 : Int32))), .unset, .unset, .unset, .unset, .unset]) rfl k) ?_
  show own_Go _ _ _ _ (s₁.setTop (mkF m 8 #[.val (.int u0), .val (.int u1), .val (.int (u0.toUInt32.toUInt16.toUInt32.toInt32)), .val (.int (u1 &&& (15 : Int32))), .unset, .unset, .unset, .unset, .unset] []))
  refine own_st (fun _ k => XS.iloadN X0.here hx rfl (hb hby at_8) rfl k) ?_
  show own_Go _ _ _ _ (s₁.setTop (mkF m 9 #[.val (.int u0), .val (.int u1), .val (.int (u0.toUInt32.toUInt16.toUInt32.toInt32)), .val (.int (u1 &&& (15 : Int32))), .unset, .unset, .unset, .unset, .unset] [(.int (u1 &&& (15 : Int32)))]))
  obtain ⟨_, vm30, ⟨T30, L30, k30, n30⟩, hvm30, X30, hSi30, hgr30, ⟨Lc30, hQ30, l30, y30, z30⟩, st30⟩ := callSS (s := (Z.setVm Z.vm)) X0 hx (y := (⟨"com/example/handler/handler/HttpSyntaxHexValuePinLaw", "lowerDigit", "(I)C"⟩ : MethodName)) hown (mvT hZ (hw _ (List.mem_of_getElem? (i := 0) rfl))) (mvT hZ (hw _ (List.mem_of_getElem? (i := 1) rfl))) (mvT hZ (hw _ (List.mem_of_getElem? (i := 2) rfl))) (mvT hZ (hw _ (List.mem_of_getElem? (i := 3) rfl))) (by decide) (own_backS (s := (Z.setVm Z.vm)) (W := 0) (rm1c l Z a0 hw [] (Z.setVm Z.vm) [] (u1 &&& (15 : Int32)) fv G1 h0 n0 Z0 S1 hG S3 rG (own_d0 u1) (own_d1 u1) hcw hc7 hOld IB0 (by decide)) hZ (hw _ (List.mem_of_getElem? (i := 3) rfl)) (hw _ (List.mem_of_getElem? (i := 2) rfl)) (by decide) (by decide)) (g := (mkF m 9 #[.val (.int u0), .val (.int u1), .val (.int (u0.toUInt32.toUInt16.toUInt32.toInt32)), .val (.int (u1 &&& (15 : Int32))), .unset, .unset, .unset, .unset, .unset] [(.int (u1 &&& (15 : Int32)))])) rfl (by rw [hml]; rfl) (argsL := [(.int (u1 &&& (15 : Int32)))]) (rest := []) (lenOf own_pd4 rfl) rfl (by show 2 * 0 + _ ≤ _; exact Nat.le_of_eq rfl) (hb hby at_9) (fun _ _ => ⟨rfl, e0, (by decide : 0 + 2 ≤ _), (by decide : 0 + 68 ≤ _)⟩)
  dsimp only [Pt.U, Pt.locs, Pt.cells, Pt.slots] at X30 l30 y30 z30 st30 hQ30 hSi30 hgr30
  rw [l30, y30, z30] at X30
  obtain ⟨X30, hS, hZ, hown⟩ := rebS (s := Z) (vm0 := Z.vm) hS (by rw [e0]; exact hk) X30 hSi30 hgr30 hZ hown
  obtain ⟨rfl, Nq30, E30, IB30, a30, b30, kk30, Li30, A30, Fc30, Fv30, V30⟩ := hQ30
  have N30 := Fr.app N0 Nq30
  refine own_tr st30 ?_
  have x30_S_java_lang_String_COMPACT_STRINGS := S1.ext E30
  have x30_S_jdk_internal_util_Preconditions_SIOOBE_FORMATTER := S3.ext E30
  have Z30 : n0 ≤ T30.heap.size := Nat.le_trans Z0 E30.1
  have K30 : Keep h0 T30.heap [] := K0.ext E30
  have hOld30 : Ext Z.heap T30.heap := ⟨Nat.le_trans hOld.1 E30.1, fun b cl q => E30.2 _ _ (hOld.2 _ _ q)⟩
  have hk : T30.heap.size ≤ T30.heap.size := Nat.le_refl _
  show own_Go _ _ _ _ (T30.setTop (mkF m 12 #[.val (.int u0), .val (.int u1), .val (.int (u0.toUInt32.toUInt16.toUInt32.toInt32)), .val (.int (u1 &&& (15 : Int32))), .unset, .unset, .unset, .unset, .unset] [(.int (own_dig own_lo (u1 &&& (15 : Int32))))]))
  refine own_st (fun _ k => XS.istore X30.here hx rfl (hb hby at_12) rfl (l' := #[.val (.int u0), .val (.int u1), .val (.int (u0.toUInt32.toUInt16.toUInt32.toInt32)), .val (.int (u1 &&& (15 : Int32))), .val (.int (own_dig own_lo (u1 &&& (15 : Int32)))), .unset, .unset, .unset, .unset]) rfl k) ?_
  show own_Go _ _ _ _ (T30.setTop (mkF m 14 #[.val (.int u0), .val (.int u1), .val (.int (u0.toUInt32.toUInt16.toUInt32.toInt32)), .val (.int (u1 &&& (15 : Int32))), .val (.int (own_dig own_lo (u1 &&& (15 : Int32)))), .unset, .unset, .unset, .unset] []))
  refine own_st (fun _ k => XS.iloadN X30.here hx rfl (hb hby at_14) rfl k) ?_
  show own_Go _ _ _ _ (T30.setTop (mkF m 15 #[.val (.int u0), .val (.int u1), .val (.int (u0.toUInt32.toUInt16.toUInt32.toInt32)), .val (.int (u1 &&& (15 : Int32))), .val (.int (own_dig own_lo (u1 &&& (15 : Int32)))), .unset, .unset, .unset, .unset] [(.int (u1 &&& (15 : Int32)))]))
  obtain ⟨_, vm31, ⟨T31, L31, k31, n31⟩, hvm31, X31, hSi31, hgr31, ⟨Lc31, hQ31, l31, y31, z31⟩, st31⟩ := callSS (s := (Z.setVm T30.vm)) X30 hx (y := (⟨"com/example/handler/handler/HttpSyntaxHexValuePinLaw", "upperDigit", "(I)C"⟩ : MethodName)) hown (mvT hZ (hw _ (List.mem_of_getElem? (i := 37) rfl))) (mvT hZ (hw _ (List.mem_of_getElem? (i := 38) rfl))) (mvT hZ (hw _ (List.mem_of_getElem? (i := 2) rfl))) (mvT hZ (hw _ (List.mem_of_getElem? (i := 39) rfl))) (by decide) (own_backS (s := (Z.setVm T30.vm)) (W := 0) (rm7c l Z a0 hw [] (Z.setVm T30.vm) ["0123456789abcdef"] (u1 &&& (15 : Int32)) fv G1 T30.heap n0 Z30 x30_S_java_lang_String_COMPACT_STRINGS hG x30_S_jdk_internal_util_Preconditions_SIOOBE_FORMATTER rG (own_d0 u1) (own_d1 u1) hcw hc15 hOld30 IB30 (by decide)) hZ (hw _ (List.mem_of_getElem? (i := 39) rfl)) (hw _ (List.mem_of_getElem? (i := 2) rfl)) (by decide) (by decide)) (g := (mkF m 15 #[.val (.int u0), .val (.int u1), .val (.int (u0.toUInt32.toUInt16.toUInt32.toInt32)), .val (.int (u1 &&& (15 : Int32))), .val (.int (own_dig own_lo (u1 &&& (15 : Int32)))), .unset, .unset, .unset, .unset] [(.int (u1 &&& (15 : Int32)))])) rfl (by rw [hml]; rfl) (argsL := [(.int (u1 &&& (15 : Int32)))]) (rest := []) (lenOf own_pd4 rfl) rfl (by show 2 * 0 + _ ≤ _; exact Nat.le_of_eq rfl) (hb hby at_15) (fun _ _ => ⟨rfl, rfl, (by decide : 2 + 2 ≤ _), (by decide : 68 + 68 ≤ _)⟩)
  dsimp only [Pt.U, Pt.locs, Pt.cells, Pt.slots] at X31 l31 y31 z31 st31 hQ31 hSi31 hgr31
  rw [l31, y31, z31] at X31
  obtain ⟨X31, hS, hZ, hown⟩ := rebS (s := Z) (vm0 := T30.vm) hS hk X31 hSi31 hgr31 hZ hown
  obtain ⟨rfl, Nq31, E31, IB31, a31, b31, kk31, Li31, A31, Fc31, Fv31, V31⟩ := hQ31
  have N31 := Fr.app N30 Nq31
  refine own_tr st31 ?_
  have Lj31_7 := Lit.stays Li30 hSi31.1
  have x31_S_java_lang_String_COMPACT_STRINGS := x30_S_java_lang_String_COMPACT_STRINGS.ext E31
  have x31_S_jdk_internal_util_Preconditions_SIOOBE_FORMATTER := x30_S_jdk_internal_util_Preconditions_SIOOBE_FORMATTER.ext E31
  have x31_E_a30 := A30.ext E31
  have x31_F_a30_coder := Fc30.ext E31
  have x31_F_a30_value := Fv30.ext E31
  have x31_V_b30 := V30.ext E31
  have Z31 : n0 ≤ T31.heap.size := Nat.le_trans Z30 E31.1
  have K31 : Keep h0 T31.heap [] := K30.ext E31
  have hOld31 : Ext Z.heap T31.heap := ⟨Nat.le_trans hOld30.1 E31.1, fun b cl q => E31.2 _ _ (hOld30.2 _ _ q)⟩
  have hk : T31.heap.size ≤ T31.heap.size := Nat.le_refl _
  show own_Go _ _ _ _ (T31.setTop (mkF m 18 #[.val (.int u0), .val (.int u1), .val (.int (u0.toUInt32.toUInt16.toUInt32.toInt32)), .val (.int (u1 &&& (15 : Int32))), .val (.int (own_dig own_lo (u1 &&& (15 : Int32)))), .unset, .unset, .unset, .unset] [(.int (own_dig own_up (u1 &&& (15 : Int32))))]))
  refine own_st (fun _ k => XS.istore X31.here hx rfl (hb hby at_18) rfl (l' := #[.val (.int u0), .val (.int u1), .val (.int (u0.toUInt32.toUInt16.toUInt32.toInt32)), .val (.int (u1 &&& (15 : Int32))), .val (.int (own_dig own_lo (u1 &&& (15 : Int32)))), .val (.int (own_dig own_up (u1 &&& (15 : Int32)))), .unset, .unset, .unset]) rfl k) ?_
  show own_Go _ _ _ _ (T31.setTop (mkF m 20 #[.val (.int u0), .val (.int u1), .val (.int (u0.toUInt32.toUInt16.toUInt32.toInt32)), .val (.int (u1 &&& (15 : Int32))), .val (.int (own_dig own_lo (u1 &&& (15 : Int32)))), .val (.int (own_dig own_up (u1 &&& (15 : Int32)))), .unset, .unset, .unset] []))
  refine own_st (fun _ k => XS.iloadN X31.here hx rfl (hb hby at_20) rfl k) ?_
  show own_Go _ _ _ _ (T31.setTop (mkF m 21 #[.val (.int u0), .val (.int u1), .val (.int (u0.toUInt32.toUInt16.toUInt32.toInt32)), .val (.int (u1 &&& (15 : Int32))), .val (.int (own_dig own_lo (u1 &&& (15 : Int32)))), .val (.int (own_dig own_up (u1 &&& (15 : Int32)))), .unset, .unset, .unset] [(.int (u0.toUInt32.toUInt16.toUInt32.toInt32))]))
  obtain ⟨_, _, ⟨T32, L32, k32, n32⟩, -, X32, ⟨Lc32, hQ32, l32, y32, z32⟩, st32⟩ := Jvm.LawKit.callS X31 hx (y := (⟨"com/example/handler/handler/HttpSyntax", "hexValue", "(C)I"⟩ : MethodName)) hown (mvT hZ (hw _ (List.mem_of_getElem? (i := 41) rfl))) (mvT hZ (hw _ (List.mem_of_getElem? (i := 42) rfl))) (mvT hZ (hw _ (List.mem_of_getElem? (i := 43) rfl))) (mvT hZ (hw _ (List.mem_of_getElem? (i := 44) rfl))) (by decide) (backOf (W := 0) (rm8 l Z a0 hw [] (u0.toUInt32.toUInt16.toUInt32.toInt32) T31.heap n0 Z31 ) hZ (hw _ (List.mem_of_getElem? (i := 44) rfl)) (hw _ (List.mem_of_getElem? (i := 43) rfl)) (by decide) (by decide)) (g := (mkF m 21 #[.val (.int u0), .val (.int u1), .val (.int (u0.toUInt32.toUInt16.toUInt32.toInt32)), .val (.int (u1 &&& (15 : Int32))), .val (.int (own_dig own_lo (u1 &&& (15 : Int32)))), .val (.int (own_dig own_up (u1 &&& (15 : Int32)))), .unset, .unset, .unset] [(.int (u0.toUInt32.toUInt16.toUInt32.toInt32))])) rfl (by rw [hml]; rfl) (argsL := [(.int (u0.toUInt32.toUInt16.toUInt32.toInt32))]) (rest := []) (lenOf own_pd5 rfl) rfl (by show 2 * 0 + _ ≤ _; exact Nat.le_of_eq rfl) (hb hby at_21) (fun _ _ => ⟨rfl, rfl, (by decide : 4 + 0 ≤ _), (by decide : 136 + 0 ≤ _)⟩)
  dsimp only [Pt.U, Pt.locs, Pt.cells, Pt.slots] at X32 l32 y32 z32 st32 hQ32
  rw [l32, y32, z32] at X32
  obtain ⟨rfl, Nq32, eq32⟩ := hQ32
  have N32 := Fr.app N31 Nq32
  refine own_st st32 ?_
  show own_Go _ _ _ _ (T32.setTop (mkF m 24 #[.val (.int u0), .val (.int u1), .val (.int (u0.toUInt32.toUInt16.toUInt32.toInt32)), .val (.int (u1 &&& (15 : Int32))), .val (.int (own_dig own_lo (u1 &&& (15 : Int32)))), .val (.int (own_dig own_up (u1 &&& (15 : Int32)))), .unset, .unset, .unset] [(.int (own_hx (u0.toUInt32.toUInt16.toUInt32.toInt32)))]))
  refine own_st (fun _ k => XS.istore X32.here hx rfl (hb hby at_24) rfl (l' := #[.val (.int u0), .val (.int u1), .val (.int (u0.toUInt32.toUInt16.toUInt32.toInt32)), .val (.int (u1 &&& (15 : Int32))), .val (.int (own_dig own_lo (u1 &&& (15 : Int32)))), .val (.int (own_dig own_up (u1 &&& (15 : Int32)))), .val (.int (own_hx (u0.toUInt32.toUInt16.toUInt32.toInt32))), .unset, .unset]) rfl k) ?_
  show own_Go _ _ _ _ (T32.setTop (mkF m 26 #[.val (.int u0), .val (.int u1), .val (.int (u0.toUInt32.toUInt16.toUInt32.toInt32)), .val (.int (u1 &&& (15 : Int32))), .val (.int (own_dig own_lo (u1 &&& (15 : Int32)))), .val (.int (own_dig own_up (u1 &&& (15 : Int32)))), .val (.int (own_hx (u0.toUInt32.toUInt16.toUInt32.toInt32))), .unset, .unset] []))
  refine own_st (fun _ k => XS.iload X32.here hx rfl (hb hby at_26) rfl k) ?_
  show own_Go _ _ _ _ (T32.setTop (mkF m 28 #[.val (.int u0), .val (.int u1), .val (.int (u0.toUInt32.toUInt16.toUInt32.toInt32)), .val (.int (u1 &&& (15 : Int32))), .val (.int (own_dig own_lo (u1 &&& (15 : Int32)))), .val (.int (own_dig own_up (u1 &&& (15 : Int32)))), .val (.int (own_hx (u0.toUInt32.toUInt16.toUInt32.toInt32))), .unset, .unset] [(.int (own_hx (u0.toUInt32.toUInt16.toUInt32.toInt32)))]))
  refine own_st (fun _ k => XS.iconst X32.here hx rfl (hb hby at_28) k) ?_
  show own_Go _ _ _ _ (T32.setTop (mkF m 29 #[.val (.int u0), .val (.int u1), .val (.int (u0.toUInt32.toUInt16.toUInt32.toInt32)), .val (.int (u1 &&& (15 : Int32))), .val (.int (own_dig own_lo (u1 &&& (15 : Int32)))), .val (.int (own_dig own_up (u1 &&& (15 : Int32)))), .val (.int (own_hx (u0.toUInt32.toUInt16.toUInt32.toInt32))), .unset, .unset] [(.int (-1 : Int32)), (.int (own_hx (u0.toUInt32.toUInt16.toUInt32.toInt32)))]))
  by_cases hc33 : (own_hx (u0.toUInt32.toUInt16.toUInt32.toInt32)) = (-1 : Int32)
  · skip
    refine own_st (fun _ k => XS.icmpNo X32.here hx rfl (hb hby at_29) rfl (teq hc33).2 k) ?_
    show own_Go _ _ _ _ (T32.setTop (mkF m 32 #[.val (.int u0), .val (.int u1), .val (.int (u0.toUInt32.toUInt16.toUInt32.toInt32)), .val (.int (u1 &&& (15 : Int32))), .val (.int (own_dig own_lo (u1 &&& (15 : Int32)))), .val (.int (own_dig own_up (u1 &&& (15 : Int32)))), .val (.int (own_hx (u0.toUInt32.toUInt16.toUInt32.toInt32))), .unset, .unset] []))
    refine own_st (fun _ k => XS.iconst X32.here hx rfl (hb hby at_32) k) ?_
    show own_Go _ _ _ _ (T32.setTop (mkF m 33 #[.val (.int u0), .val (.int u1), .val (.int (u0.toUInt32.toUInt16.toUInt32.toInt32)), .val (.int (u1 &&& (15 : Int32))), .val (.int (own_dig own_lo (u1 &&& (15 : Int32)))), .val (.int (own_dig own_up (u1 &&& (15 : Int32)))), .val (.int (own_hx (u0.toUInt32.toUInt16.toUInt32.toInt32))), .unset, .unset] [(.int (1 : Int32))]))
    refine own_st (fun _ k => XS.istore X32.here hx rfl (hb hby at_33) rfl (l' := #[.val (.int u0), .val (.int u1), .val (.int (u0.toUInt32.toUInt16.toUInt32.toInt32)), .val (.int (u1 &&& (15 : Int32))), .val (.int (own_dig own_lo (u1 &&& (15 : Int32)))), .val (.int (own_dig own_up (u1 &&& (15 : Int32)))), .val (.int (own_hx (u0.toUInt32.toUInt16.toUInt32.toInt32))), .val (.int (1 : Int32)), .unset]) rfl k) ?_
    show own_Go _ _ _ _ (T32.setTop (mkF m 35 #[.val (.int u0), .val (.int u1), .val (.int (u0.toUInt32.toUInt16.toUInt32.toInt32)), .val (.int (u1 &&& (15 : Int32))), .val (.int (own_dig own_lo (u1 &&& (15 : Int32)))), .val (.int (own_dig own_up (u1 &&& (15 : Int32)))), .val (.int (own_hx (u0.toUInt32.toUInt16.toUInt32.toInt32))), .val (.int (1 : Int32)), .unset] []))
    refine own_st (fun _ k => XS.goto X32.here hx rfl (pc0 := 35) (pc' := 81) rfl (hb hby at_35) (by decide) (by decide) k) ?_
    show own_Go _ _ _ _ (T32.setTop (mkF m 81 #[.val (.int u0), .val (.int u1), .val (.int (u0.toUInt32.toUInt16.toUInt32.toInt32)), .val (.int (u1 &&& (15 : Int32))), .val (.int (own_dig own_lo (u1 &&& (15 : Int32)))), .val (.int (own_dig own_up (u1 &&& (15 : Int32)))), .val (.int (own_hx (u0.toUInt32.toUInt16.toUInt32.toInt32))), .val (.int (1 : Int32)), .unset] []))
    refine own_st (fun _ k => XS.iload X32.here hx rfl (hb hby at_81) rfl k) ?_
    show own_Go _ _ _ _ (T32.setTop (mkF m 83 #[.val (.int u0), .val (.int u1), .val (.int (u0.toUInt32.toUInt16.toUInt32.toInt32)), .val (.int (u1 &&& (15 : Int32))), .val (.int (own_dig own_lo (u1 &&& (15 : Int32)))), .val (.int (own_dig own_up (u1 &&& (15 : Int32)))), .val (.int (own_hx (u0.toUInt32.toUInt16.toUInt32.toInt32))), .val (.int (1 : Int32)), .unset] [(.int (own_dig own_lo (u1 &&& (15 : Int32))))]))
    obtain ⟨_, _, ⟨T34, L34, k34, n34⟩, -, X34, ⟨Lc34, hQ34, l34, y34, z34⟩, st34⟩ := Jvm.LawKit.callS X32 hx (y := (⟨"com/example/handler/handler/HttpSyntax", "hexValue", "(C)I"⟩ : MethodName)) hown (mvT hZ (hw _ (List.mem_of_getElem? (i := 41) rfl))) (mvT hZ (hw _ (List.mem_of_getElem? (i := 42) rfl))) (mvT hZ (hw _ (List.mem_of_getElem? (i := 43) rfl))) (mvT hZ (hw _ (List.mem_of_getElem? (i := 44) rfl))) (by decide) (backOf (W := 0) (rm8 l Z a0 hw [] (own_dig own_lo (u1 &&& (15 : Int32))) T31.heap n0 Z31 ) hZ (hw _ (List.mem_of_getElem? (i := 44) rfl)) (hw _ (List.mem_of_getElem? (i := 43) rfl)) (by decide) (by decide)) (g := (mkF m 83 #[.val (.int u0), .val (.int u1), .val (.int (u0.toUInt32.toUInt16.toUInt32.toInt32)), .val (.int (u1 &&& (15 : Int32))), .val (.int (own_dig own_lo (u1 &&& (15 : Int32)))), .val (.int (own_dig own_up (u1 &&& (15 : Int32)))), .val (.int (own_hx (u0.toUInt32.toUInt16.toUInt32.toInt32))), .val (.int (1 : Int32)), .unset] [(.int (own_dig own_lo (u1 &&& (15 : Int32))))])) rfl (by rw [hml]; rfl) (argsL := [(.int (own_dig own_lo (u1 &&& (15 : Int32))))]) (rest := []) (lenOf own_pd5 rfl) rfl (by show 2 * 0 + _ ≤ _; exact Nat.le_of_eq rfl) (hb hby at_83) (fun _ _ => ⟨rfl, eq32, (by decide : 4 + 0 ≤ _), (by decide : 136 + 0 ≤ _)⟩)
    dsimp only [Pt.U, Pt.locs, Pt.cells, Pt.slots] at X34 l34 y34 z34 st34 hQ34
    rw [l34, y34, z34] at X34
    obtain ⟨rfl, Nq34, eq34⟩ := hQ34
    have N34 := Fr.app N32 Nq34
    refine own_st st34 ?_
    show own_Go _ _ _ _ (T34.setTop (mkF m 86 #[.val (.int u0), .val (.int u1), .val (.int (u0.toUInt32.toUInt16.toUInt32.toInt32)), .val (.int (u1 &&& (15 : Int32))), .val (.int (own_dig own_lo (u1 &&& (15 : Int32)))), .val (.int (own_dig own_up (u1 &&& (15 : Int32)))), .val (.int (own_hx (u0.toUInt32.toUInt16.toUInt32.toInt32))), .val (.int (1 : Int32)), .unset] [(.int (own_hx (own_dig own_lo (u1 &&& (15 : Int32)))))]))
    refine own_st (fun _ k => XS.iloadN X34.here hx rfl (hb hby at_86) rfl k) ?_
    show own_Go _ _ _ _ (T34.setTop (mkF m 87 #[.val (.int u0), .val (.int u1), .val (.int (u0.toUInt32.toUInt16.toUInt32.toInt32)), .val (.int (u1 &&& (15 : Int32))), .val (.int (own_dig own_lo (u1 &&& (15 : Int32)))), .val (.int (own_dig own_up (u1 &&& (15 : Int32)))), .val (.int (own_hx (u0.toUInt32.toUInt16.toUInt32.toInt32))), .val (.int (1 : Int32)), .unset] [(.int (u1 &&& (15 : Int32))), (.int (own_hx (own_dig own_lo (u1 &&& (15 : Int32)))))]))
    refine own_st (fun _ k => XS.icmpNo X34.here hx rfl (hb hby at_87) rfl (teq ((own_rt _ (own_d0 u1) (own_d1 u1)).1)).2 k) ?_
    show own_Go _ _ _ _ (T34.setTop (mkF m 90 #[.val (.int u0), .val (.int u1), .val (.int (u0.toUInt32.toUInt16.toUInt32.toInt32)), .val (.int (u1 &&& (15 : Int32))), .val (.int (own_dig own_lo (u1 &&& (15 : Int32)))), .val (.int (own_dig own_up (u1 &&& (15 : Int32)))), .val (.int (own_hx (u0.toUInt32.toUInt16.toUInt32.toInt32))), .val (.int (1 : Int32)), .unset] []))
    refine own_st (fun _ k => XS.iload X34.here hx rfl (hb hby at_90) rfl k) ?_
    show own_Go _ _ _ _ (T34.setTop (mkF m 92 #[.val (.int u0), .val (.int u1), .val (.int (u0.toUInt32.toUInt16.toUInt32.toInt32)), .val (.int (u1 &&& (15 : Int32))), .val (.int (own_dig own_lo (u1 &&& (15 : Int32)))), .val (.int (own_dig own_up (u1 &&& (15 : Int32)))), .val (.int (own_hx (u0.toUInt32.toUInt16.toUInt32.toInt32))), .val (.int (1 : Int32)), .unset] [(.int (own_dig own_up (u1 &&& (15 : Int32))))]))
    obtain ⟨_, _, ⟨T35, L35, k35, n35⟩, -, X35, ⟨Lc35, hQ35, l35, y35, z35⟩, st35⟩ := Jvm.LawKit.callS X34 hx (y := (⟨"com/example/handler/handler/HttpSyntax", "hexValue", "(C)I"⟩ : MethodName)) hown (mvT hZ (hw _ (List.mem_of_getElem? (i := 41) rfl))) (mvT hZ (hw _ (List.mem_of_getElem? (i := 42) rfl))) (mvT hZ (hw _ (List.mem_of_getElem? (i := 43) rfl))) (mvT hZ (hw _ (List.mem_of_getElem? (i := 44) rfl))) (by decide) (backOf (W := 0) (rm8 l Z a0 hw [] (own_dig own_up (u1 &&& (15 : Int32))) T31.heap n0 Z31 ) hZ (hw _ (List.mem_of_getElem? (i := 44) rfl)) (hw _ (List.mem_of_getElem? (i := 43) rfl)) (by decide) (by decide)) (g := (mkF m 92 #[.val (.int u0), .val (.int u1), .val (.int (u0.toUInt32.toUInt16.toUInt32.toInt32)), .val (.int (u1 &&& (15 : Int32))), .val (.int (own_dig own_lo (u1 &&& (15 : Int32)))), .val (.int (own_dig own_up (u1 &&& (15 : Int32)))), .val (.int (own_hx (u0.toUInt32.toUInt16.toUInt32.toInt32))), .val (.int (1 : Int32)), .unset] [(.int (own_dig own_up (u1 &&& (15 : Int32))))])) rfl (by rw [hml]; rfl) (argsL := [(.int (own_dig own_up (u1 &&& (15 : Int32))))]) (rest := []) (lenOf own_pd5 rfl) rfl (by show 2 * 0 + _ ≤ _; exact Nat.le_of_eq rfl) (hb hby at_92) (fun _ _ => ⟨rfl, eq34, (by decide : 4 + 0 ≤ _), (by decide : 136 + 0 ≤ _)⟩)
    dsimp only [Pt.U, Pt.locs, Pt.cells, Pt.slots] at X35 l35 y35 z35 st35 hQ35
    rw [l35, y35, z35] at X35
    obtain ⟨rfl, Nq35, eq35⟩ := hQ35
    have N35 := Fr.app N34 Nq35
    refine own_st st35 ?_
    show own_Go _ _ _ _ (T35.setTop (mkF m 95 #[.val (.int u0), .val (.int u1), .val (.int (u0.toUInt32.toUInt16.toUInt32.toInt32)), .val (.int (u1 &&& (15 : Int32))), .val (.int (own_dig own_lo (u1 &&& (15 : Int32)))), .val (.int (own_dig own_up (u1 &&& (15 : Int32)))), .val (.int (own_hx (u0.toUInt32.toUInt16.toUInt32.toInt32))), .val (.int (1 : Int32)), .unset] [(.int (own_hx (own_dig own_up (u1 &&& (15 : Int32)))))]))
    refine own_st (fun _ k => XS.iloadN X35.here hx rfl (hb hby at_95) rfl k) ?_
    show own_Go _ _ _ _ (T35.setTop (mkF m 96 #[.val (.int u0), .val (.int u1), .val (.int (u0.toUInt32.toUInt16.toUInt32.toInt32)), .val (.int (u1 &&& (15 : Int32))), .val (.int (own_dig own_lo (u1 &&& (15 : Int32)))), .val (.int (own_dig own_up (u1 &&& (15 : Int32)))), .val (.int (own_hx (u0.toUInt32.toUInt16.toUInt32.toInt32))), .val (.int (1 : Int32)), .unset] [(.int (u1 &&& (15 : Int32))), (.int (own_hx (own_dig own_up (u1 &&& (15 : Int32)))))]))
    refine own_st (fun _ k => XS.icmpNo X35.here hx rfl (hb hby at_96) rfl (teq ((own_rt _ (own_d0 u1) (own_d1 u1)).2)).2 k) ?_
    show own_Go _ _ _ _ (T35.setTop (mkF m 99 #[.val (.int u0), .val (.int u1), .val (.int (u0.toUInt32.toUInt16.toUInt32.toInt32)), .val (.int (u1 &&& (15 : Int32))), .val (.int (own_dig own_lo (u1 &&& (15 : Int32)))), .val (.int (own_dig own_up (u1 &&& (15 : Int32)))), .val (.int (own_hx (u0.toUInt32.toUInt16.toUInt32.toInt32))), .val (.int (1 : Int32)), .unset] []))
    refine own_st (fun _ k => XS.iconst X35.here hx rfl (hb hby at_99) k) ?_
    show own_Go _ _ _ _ (T35.setTop (mkF m 100 #[.val (.int u0), .val (.int u1), .val (.int (u0.toUInt32.toUInt16.toUInt32.toInt32)), .val (.int (u1 &&& (15 : Int32))), .val (.int (own_dig own_lo (u1 &&& (15 : Int32)))), .val (.int (own_dig own_up (u1 &&& (15 : Int32)))), .val (.int (own_hx (u0.toUInt32.toUInt16.toUInt32.toInt32))), .val (.int (1 : Int32)), .unset] [(.int (1 : Int32))]))
    refine own_st (fun _ k => XS.goto X35.here hx rfl (pc0 := 100) (pc' := 104) rfl (hb hby at_100) (by decide) (by decide) k) ?_
    show own_Go _ _ _ _ (T35.setTop (mkF m 104 #[.val (.int u0), .val (.int u1), .val (.int (u0.toUInt32.toUInt16.toUInt32.toInt32)), .val (.int (u1 &&& (15 : Int32))), .val (.int (own_dig own_lo (u1 &&& (15 : Int32)))), .val (.int (own_dig own_up (u1 &&& (15 : Int32)))), .val (.int (own_hx (u0.toUInt32.toUInt16.toUInt32.toInt32))), .val (.int (1 : Int32)), .unset] [(.int (1 : Int32))]))
    refine own_st (fun _ k => XS.istore X35.here hx rfl (hb hby at_104) rfl (l' := #[.val (.int u0), .val (.int u1), .val (.int (u0.toUInt32.toUInt16.toUInt32.toInt32)), .val (.int (u1 &&& (15 : Int32))), .val (.int (own_dig own_lo (u1 &&& (15 : Int32)))), .val (.int (own_dig own_up (u1 &&& (15 : Int32)))), .val (.int (own_hx (u0.toUInt32.toUInt16.toUInt32.toInt32))), .val (.int (1 : Int32)), .val (.int (1 : Int32))]) rfl k) ?_
    show own_Go _ _ _ _ (T35.setTop (mkF m 106 #[.val (.int u0), .val (.int u1), .val (.int (u0.toUInt32.toUInt16.toUInt32.toInt32)), .val (.int (u1 &&& (15 : Int32))), .val (.int (own_dig own_lo (u1 &&& (15 : Int32)))), .val (.int (own_dig own_up (u1 &&& (15 : Int32)))), .val (.int (own_hx (u0.toUInt32.toUInt16.toUInt32.toInt32))), .val (.int (1 : Int32)), .val (.int (1 : Int32))] []))
    refine own_st (fun _ k => XS.iload X35.here hx rfl (hb hby at_106) rfl k) ?_
    show own_Go _ _ _ _ (T35.setTop (mkF m 108 #[.val (.int u0), .val (.int u1), .val (.int (u0.toUInt32.toUInt16.toUInt32.toInt32)), .val (.int (u1 &&& (15 : Int32))), .val (.int (own_dig own_lo (u1 &&& (15 : Int32)))), .val (.int (own_dig own_up (u1 &&& (15 : Int32)))), .val (.int (own_hx (u0.toUInt32.toUInt16.toUInt32.toInt32))), .val (.int (1 : Int32)), .val (.int (1 : Int32))] [(.int (1 : Int32))]))
    refine own_st (fun _ k => XS.ifNo X35.here hx rfl (hb hby at_108) rfl ((if0 _ _).trans (feq (by decide : ¬ ((1 : Int32) = (0 : Int32)))).1) k) ?_
    show own_Go _ _ _ _ (T35.setTop (mkF m 111 #[.val (.int u0), .val (.int u1), .val (.int (u0.toUInt32.toUInt16.toUInt32.toInt32)), .val (.int (u1 &&& (15 : Int32))), .val (.int (own_dig own_lo (u1 &&& (15 : Int32)))), .val (.int (own_dig own_up (u1 &&& (15 : Int32)))), .val (.int (own_hx (u0.toUInt32.toUInt16.toUInt32.toInt32))), .val (.int (1 : Int32)), .val (.int (1 : Int32))] []))
    refine own_st (fun _ k => XS.iload X35.here hx rfl (hb hby at_111) rfl k) ?_
    show own_Go _ _ _ _ (T35.setTop (mkF m 113 #[.val (.int u0), .val (.int u1), .val (.int (u0.toUInt32.toUInt16.toUInt32.toInt32)), .val (.int (u1 &&& (15 : Int32))), .val (.int (own_dig own_lo (u1 &&& (15 : Int32)))), .val (.int (own_dig own_up (u1 &&& (15 : Int32)))), .val (.int (own_hx (u0.toUInt32.toUInt16.toUInt32.toInt32))), .val (.int (1 : Int32)), .val (.int (1 : Int32))] [(.int (1 : Int32))]))
    refine own_st (fun _ k => XS.ifNo X35.here hx rfl (hb hby at_113) rfl ((if0 _ _).trans (feq (by decide : ¬ ((1 : Int32) = (0 : Int32)))).1) k) ?_
    show own_Go _ _ _ _ (T35.setTop (mkF m 116 #[.val (.int u0), .val (.int u1), .val (.int (u0.toUInt32.toUInt16.toUInt32.toInt32)), .val (.int (u1 &&& (15 : Int32))), .val (.int (own_dig own_lo (u1 &&& (15 : Int32)))), .val (.int (own_dig own_up (u1 &&& (15 : Int32)))), .val (.int (own_hx (u0.toUInt32.toUInt16.toUInt32.toInt32))), .val (.int (1 : Int32)), .val (.int (1 : Int32))] []))
    refine own_st (fun _ k => XS.iconst X35.here hx rfl (hb hby at_116) k) ?_
    show own_Go _ _ _ _ (T35.setTop (mkF m 117 #[.val (.int u0), .val (.int u1), .val (.int (u0.toUInt32.toUInt16.toUInt32.toInt32)), .val (.int (u1 &&& (15 : Int32))), .val (.int (own_dig own_lo (u1 &&& (15 : Int32)))), .val (.int (own_dig own_up (u1 &&& (15 : Int32)))), .val (.int (own_hx (u0.toUInt32.toUInt16.toUInt32.toInt32))), .val (.int (1 : Int32)), .val (.int (1 : Int32))] [(.int (1 : Int32))]))
    refine own_st (fun _ k => XS.goto X35.here hx rfl (pc0 := 117) (pc' := 121) rfl (hb hby at_117) (by decide) (by decide) k) ?_
    show own_Go _ _ _ _ (T35.setTop (mkF m 121 #[.val (.int u0), .val (.int u1), .val (.int (u0.toUInt32.toUInt16.toUInt32.toInt32)), .val (.int (u1 &&& (15 : Int32))), .val (.int (own_dig own_lo (u1 &&& (15 : Int32)))), .val (.int (own_dig own_up (u1 &&& (15 : Int32)))), .val (.int (own_hx (u0.toUInt32.toUInt16.toUInt32.toInt32))), .val (.int (1 : Int32)), .val (.int (1 : Int32))] [(.int (1 : Int32))]))
    obtain ⟨fs, hr, hrun, hended, hEnd⟩ := X35.leaveW (s := Z) (vm₁ := T31.vm) hS (by rw [eq35]; exact hk) (v := some (.int (1 : Int32))) (fun h => by rw [Bd.returns] at h; cases h)
    refine own_out (retN X35 hx (t := .boolean) Bd.returns (by simp) (hb hby at_121) hr) ⟨hrun, hended, _, _, rfl, ?_, hEnd.1, hEnd.2.1, hEnd.2.2.1, hEnd.2.2.2.mono (by decide) (by decide)⟩
    show Q0 Z u0 u1 h0 n0 _ T35.heap _
    exact ⟨rfl, N35⟩
  · skip
    refine own_st (fun _ k => XS.icmpYes X32.here hx rfl (pc0 := 29) (pc' := 38) rfl (hb hby at_29) rfl (feq hc33).2 (by decide) (by decide) k) ?_
    show own_Go _ _ _ _ (T32.setTop (mkF m 38 #[.val (.int u0), .val (.int u1), .val (.int (u0.toUInt32.toUInt16.toUInt32.toInt32)), .val (.int (u1 &&& (15 : Int32))), .val (.int (own_dig own_lo (u1 &&& (15 : Int32)))), .val (.int (own_dig own_up (u1 &&& (15 : Int32)))), .val (.int (own_hx (u0.toUInt32.toUInt16.toUInt32.toInt32))), .unset, .unset] []))
    have hs := own_sound _ hc33
    have hr0 := hs.1.1
    have hr1 := hs.1.2
    refine own_st (fun _ k => XS.iload X32.here hx rfl (hb hby at_38) rfl k) ?_
    show own_Go _ _ _ _ (T32.setTop (mkF m 40 #[.val (.int u0), .val (.int u1), .val (.int (u0.toUInt32.toUInt16.toUInt32.toInt32)), .val (.int (u1 &&& (15 : Int32))), .val (.int (own_dig own_lo (u1 &&& (15 : Int32)))), .val (.int (own_dig own_up (u1 &&& (15 : Int32)))), .val (.int (own_hx (u0.toUInt32.toUInt16.toUInt32.toInt32))), .unset, .unset] [(.int (own_hx (u0.toUInt32.toUInt16.toUInt32.toInt32)))]))
    refine own_st (fun _ k => XS.ifNo X32.here hx rfl (hb hby at_40) rfl ((if0 _ _).trans (flt (hr0)).1) k) ?_
    show own_Go _ _ _ _ (T32.setTop (mkF m 43 #[.val (.int u0), .val (.int u1), .val (.int (u0.toUInt32.toUInt16.toUInt32.toInt32)), .val (.int (u1 &&& (15 : Int32))), .val (.int (own_dig own_lo (u1 &&& (15 : Int32)))), .val (.int (own_dig own_up (u1 &&& (15 : Int32)))), .val (.int (own_hx (u0.toUInt32.toUInt16.toUInt32.toInt32))), .unset, .unset] []))
    refine own_st (fun _ k => XS.iload X32.here hx rfl (hb hby at_43) rfl k) ?_
    show own_Go _ _ _ _ (T32.setTop (mkF m 45 #[.val (.int u0), .val (.int u1), .val (.int (u0.toUInt32.toUInt16.toUInt32.toInt32)), .val (.int (u1 &&& (15 : Int32))), .val (.int (own_dig own_lo (u1 &&& (15 : Int32)))), .val (.int (own_dig own_up (u1 &&& (15 : Int32)))), .val (.int (own_hx (u0.toUInt32.toUInt16.toUInt32.toInt32))), .unset, .unset] [(.int (own_hx (u0.toUInt32.toUInt16.toUInt32.toInt32)))]))
    refine own_st (fun _ k => XS.bipush X32.here hx rfl (hb hby at_45) k) ?_
    show own_Go _ _ _ _ (T32.setTop (mkF m 47 #[.val (.int u0), .val (.int u1), .val (.int (u0.toUInt32.toUInt16.toUInt32.toInt32)), .val (.int (u1 &&& (15 : Int32))), .val (.int (own_dig own_lo (u1 &&& (15 : Int32)))), .val (.int (own_dig own_up (u1 &&& (15 : Int32)))), .val (.int (own_hx (u0.toUInt32.toUInt16.toUInt32.toInt32))), .unset, .unset] [(.int (16 : Int32)), (.int (own_hx (u0.toUInt32.toUInt16.toUInt32.toInt32)))]))
    refine own_st (fun _ k => XS.icmpNo X32.here hx rfl (hb hby at_47) rfl (tlt (hr1)).2.1 k) ?_
    show own_Go _ _ _ _ (T32.setTop (mkF m 50 #[.val (.int u0), .val (.int u1), .val (.int (u0.toUInt32.toUInt16.toUInt32.toInt32)), .val (.int (u1 &&& (15 : Int32))), .val (.int (own_dig own_lo (u1 &&& (15 : Int32)))), .val (.int (own_dig own_up (u1 &&& (15 : Int32)))), .val (.int (own_hx (u0.toUInt32.toUInt16.toUInt32.toInt32))), .unset, .unset] []))
    refine own_st (fun _ k => XS.iloadN X32.here hx rfl (hb hby at_50) rfl k) ?_
    show own_Go _ _ _ _ (T32.setTop (mkF m 51 #[.val (.int u0), .val (.int u1), .val (.int (u0.toUInt32.toUInt16.toUInt32.toInt32)), .val (.int (u1 &&& (15 : Int32))), .val (.int (own_dig own_lo (u1 &&& (15 : Int32)))), .val (.int (own_dig own_up (u1 &&& (15 : Int32)))), .val (.int (own_hx (u0.toUInt32.toUInt16.toUInt32.toInt32))), .unset, .unset] [(.int (u0.toUInt32.toUInt16.toUInt32.toInt32))]))
    refine own_st (fun _ k => XS.iload X32.here hx rfl (hb hby at_51) rfl k) ?_
    show own_Go _ _ _ _ (T32.setTop (mkF m 53 #[.val (.int u0), .val (.int u1), .val (.int (u0.toUInt32.toUInt16.toUInt32.toInt32)), .val (.int (u1 &&& (15 : Int32))), .val (.int (own_dig own_lo (u1 &&& (15 : Int32)))), .val (.int (own_dig own_up (u1 &&& (15 : Int32)))), .val (.int (own_hx (u0.toUInt32.toUInt16.toUInt32.toInt32))), .unset, .unset] [(.int (own_hx (u0.toUInt32.toUInt16.toUInt32.toInt32))), (.int (u0.toUInt32.toUInt16.toUInt32.toInt32))]))
    obtain ⟨_, vm36, ⟨T36, L36, k36, n36⟩, hvm36, X36, hSi36, hgr36, ⟨Lc36, hQ36, l36, y36, z36⟩, st36⟩ := callSS (s := (Z.setVm T31.vm)) X32 hx (y := (⟨"com/example/handler/handler/HttpSyntaxHexValuePinLaw", "lowerDigit", "(I)C"⟩ : MethodName)) hown (mvT hZ (hw _ (List.mem_of_getElem? (i := 0) rfl))) (mvT hZ (hw _ (List.mem_of_getElem? (i := 1) rfl))) (mvT hZ (hw _ (List.mem_of_getElem? (i := 2) rfl))) (mvT hZ (hw _ (List.mem_of_getElem? (i := 3) rfl))) (by decide) (own_backS (s := (Z.setVm T31.vm)) (W := 1) (rm1a l Z a0 hw [] (Z.setVm T31.vm) a30 b30 kk30 (own_hx (u0.toUInt32.toUInt16.toUInt32.toInt32)) fv G1 T31.heap n0 Z31 x31_S_java_lang_String_COMPACT_STRINGS hG x31_S_jdk_internal_util_Preconditions_SIOOBE_FORMATTER rG hr0 hr1 Lj31_7 x31_E_a30 x31_F_a30_coder x31_F_a30_value x31_V_b30) hZ (hw _ (List.mem_of_getElem? (i := 3) rfl)) (hw _ (List.mem_of_getElem? (i := 2) rfl)) (by decide) (by decide)) (g := (mkF m 53 #[.val (.int u0), .val (.int u1), .val (.int (u0.toUInt32.toUInt16.toUInt32.toInt32)), .val (.int (u1 &&& (15 : Int32))), .val (.int (own_dig own_lo (u1 &&& (15 : Int32)))), .val (.int (own_dig own_up (u1 &&& (15 : Int32)))), .val (.int (own_hx (u0.toUInt32.toUInt16.toUInt32.toInt32))), .unset, .unset] [(.int (own_hx (u0.toUInt32.toUInt16.toUInt32.toInt32))), (.int (u0.toUInt32.toUInt16.toUInt32.toInt32))])) rfl (by rw [hml]; rfl) (argsL := [(.int (own_hx (u0.toUInt32.toUInt16.toUInt32.toInt32)))]) (rest := [(.int (u0.toUInt32.toUInt16.toUInt32.toInt32))]) (lenOf own_pd4 rfl) rfl (by show 2 * 0 + _ ≤ _; exact Nat.le_of_eq rfl) (hb hby at_53) (fun _ _ => ⟨rfl, eq32, (by decide : 4 + 0 ≤ _), (by decide : 136 + 0 ≤ _)⟩)
    dsimp only [Pt.U, Pt.locs, Pt.cells, Pt.slots] at X36 l36 y36 z36 st36 hQ36 hSi36 hgr36
    rw [l36, y36, z36] at X36
    obtain ⟨X36, hS, hZ, hown⟩ := rebS (s := Z) (vm0 := T31.vm) hS (by rw [eq32]; exact hk) X36 hSi36 hgr36 hZ hown
    obtain ⟨rfl, Nq36, eq36⟩ := hQ36
    rw [eq36] at hS
    have N36 := Fr.app N32 Nq36
    refine own_tr st36 ?_
    have Lj36_7 := Lit.stays Lj31_7 hSi36.1
    have Lj36_15 := Lit.stays Li31 hSi36.1
    show own_Go _ _ _ _ (T36.setTop (mkF m 56 #[.val (.int u0), .val (.int u1), .val (.int (u0.toUInt32.toUInt16.toUInt32.toInt32)), .val (.int (u1 &&& (15 : Int32))), .val (.int (own_dig own_lo (u1 &&& (15 : Int32)))), .val (.int (own_dig own_up (u1 &&& (15 : Int32)))), .val (.int (own_hx (u0.toUInt32.toUInt16.toUInt32.toInt32))), .unset, .unset] [(.int (own_dig own_lo (own_hx (u0.toUInt32.toUInt16.toUInt32.toInt32)))), (.int (u0.toUInt32.toUInt16.toUInt32.toInt32))]))
    by_cases hc37 : (u0.toUInt32.toUInt16.toUInt32.toInt32) = (own_dig own_lo (own_hx (u0.toUInt32.toUInt16.toUInt32.toInt32)))
    · skip
      refine own_st (fun _ k => XS.icmpYes X36.here hx rfl (pc0 := 56) (pc' := 68) rfl (hb hby at_56) rfl (teq hc37).1 (by decide) (by decide) k) ?_
      show own_Go _ _ _ _ (T36.setTop (mkF m 68 #[.val (.int u0), .val (.int u1), .val (.int (u0.toUInt32.toUInt16.toUInt32.toInt32)), .val (.int (u1 &&& (15 : Int32))), .val (.int (own_dig own_lo (u1 &&& (15 : Int32)))), .val (.int (own_dig own_up (u1 &&& (15 : Int32)))), .val (.int (own_hx (u0.toUInt32.toUInt16.toUInt32.toInt32))), .unset, .unset] []))
      refine own_st (fun _ k => XS.iconst X36.here hx rfl (hb hby at_68) k) ?_
      show own_Go _ _ _ _ (T36.setTop (mkF m 69 #[.val (.int u0), .val (.int u1), .val (.int (u0.toUInt32.toUInt16.toUInt32.toInt32)), .val (.int (u1 &&& (15 : Int32))), .val (.int (own_dig own_lo (u1 &&& (15 : Int32)))), .val (.int (own_dig own_up (u1 &&& (15 : Int32)))), .val (.int (own_hx (u0.toUInt32.toUInt16.toUInt32.toInt32))), .unset, .unset] [(.int (1 : Int32))]))
      refine own_st (fun _ k => XS.goto X36.here hx rfl (pc0 := 69) (pc' := 73) rfl (hb hby at_69) (by decide) (by decide) k) ?_
      show own_Go _ _ _ _ (T36.setTop (mkF m 73 #[.val (.int u0), .val (.int u1), .val (.int (u0.toUInt32.toUInt16.toUInt32.toInt32)), .val (.int (u1 &&& (15 : Int32))), .val (.int (own_dig own_lo (u1 &&& (15 : Int32)))), .val (.int (own_dig own_up (u1 &&& (15 : Int32)))), .val (.int (own_hx (u0.toUInt32.toUInt16.toUInt32.toInt32))), .unset, .unset] [(.int (1 : Int32))]))
      refine own_st (fun _ k => XS.istore X36.here hx rfl (hb hby at_73) rfl (l' := #[.val (.int u0), .val (.int u1), .val (.int (u0.toUInt32.toUInt16.toUInt32.toInt32)), .val (.int (u1 &&& (15 : Int32))), .val (.int (own_dig own_lo (u1 &&& (15 : Int32)))), .val (.int (own_dig own_up (u1 &&& (15 : Int32)))), .val (.int (own_hx (u0.toUInt32.toUInt16.toUInt32.toInt32))), .val (.int (1 : Int32)), .unset]) rfl k) ?_
      show own_Go _ _ _ _ (T36.setTop (mkF m 75 #[.val (.int u0), .val (.int u1), .val (.int (u0.toUInt32.toUInt16.toUInt32.toInt32)), .val (.int (u1 &&& (15 : Int32))), .val (.int (own_dig own_lo (u1 &&& (15 : Int32)))), .val (.int (own_dig own_up (u1 &&& (15 : Int32)))), .val (.int (own_hx (u0.toUInt32.toUInt16.toUInt32.toInt32))), .val (.int (1 : Int32)), .unset] []))
      refine own_st (fun _ k => XS.goto X36.here hx rfl (pc0 := 75) (pc' := 81) rfl (hb hby at_75) (by decide) (by decide) k) ?_
      show own_Go _ _ _ _ (T36.setTop (mkF m 81 #[.val (.int u0), .val (.int u1), .val (.int (u0.toUInt32.toUInt16.toUInt32.toInt32)), .val (.int (u1 &&& (15 : Int32))), .val (.int (own_dig own_lo (u1 &&& (15 : Int32)))), .val (.int (own_dig own_up (u1 &&& (15 : Int32)))), .val (.int (own_hx (u0.toUInt32.toUInt16.toUInt32.toInt32))), .val (.int (1 : Int32)), .unset] []))
      refine own_st (fun _ k => XS.iload X36.here hx rfl (hb hby at_81) rfl k) ?_
      show own_Go _ _ _ _ (T36.setTop (mkF m 83 #[.val (.int u0), .val (.int u1), .val (.int (u0.toUInt32.toUInt16.toUInt32.toInt32)), .val (.int (u1 &&& (15 : Int32))), .val (.int (own_dig own_lo (u1 &&& (15 : Int32)))), .val (.int (own_dig own_up (u1 &&& (15 : Int32)))), .val (.int (own_hx (u0.toUInt32.toUInt16.toUInt32.toInt32))), .val (.int (1 : Int32)), .unset] [(.int (own_dig own_lo (u1 &&& (15 : Int32))))]))
      obtain ⟨_, _, ⟨T38, L38, k38, n38⟩, -, X38, ⟨Lc38, hQ38, l38, y38, z38⟩, st38⟩ := Jvm.LawKit.callS X36 hx (y := (⟨"com/example/handler/handler/HttpSyntax", "hexValue", "(C)I"⟩ : MethodName)) hown (mvT hZ (hw _ (List.mem_of_getElem? (i := 41) rfl))) (mvT hZ (hw _ (List.mem_of_getElem? (i := 42) rfl))) (mvT hZ (hw _ (List.mem_of_getElem? (i := 43) rfl))) (mvT hZ (hw _ (List.mem_of_getElem? (i := 44) rfl))) (by decide) (backOf (W := 0) (rm8 l Z a0 hw [] (own_dig own_lo (u1 &&& (15 : Int32))) T31.heap n0 Z31 ) hZ (hw _ (List.mem_of_getElem? (i := 44) rfl)) (hw _ (List.mem_of_getElem? (i := 43) rfl)) (by decide) (by decide)) (g := (mkF m 83 #[.val (.int u0), .val (.int u1), .val (.int (u0.toUInt32.toUInt16.toUInt32.toInt32)), .val (.int (u1 &&& (15 : Int32))), .val (.int (own_dig own_lo (u1 &&& (15 : Int32)))), .val (.int (own_dig own_up (u1 &&& (15 : Int32)))), .val (.int (own_hx (u0.toUInt32.toUInt16.toUInt32.toInt32))), .val (.int (1 : Int32)), .unset] [(.int (own_dig own_lo (u1 &&& (15 : Int32))))])) rfl (by rw [hml]; rfl) (argsL := [(.int (own_dig own_lo (u1 &&& (15 : Int32))))]) (rest := []) (lenOf own_pd5 rfl) rfl (by show 2 * 0 + _ ≤ _; exact Nat.le_of_eq rfl) (hb hby at_83) (fun _ _ => ⟨rfl, eq36, (by decide : 4 + 0 ≤ _), (by decide : 136 + 0 ≤ _)⟩)
      dsimp only [Pt.U, Pt.locs, Pt.cells, Pt.slots] at X38 l38 y38 z38 st38 hQ38
      rw [l38, y38, z38] at X38
      obtain ⟨rfl, Nq38, eq38⟩ := hQ38
      have N38 := Fr.app N36 Nq38
      refine own_st st38 ?_
      show own_Go _ _ _ _ (T38.setTop (mkF m 86 #[.val (.int u0), .val (.int u1), .val (.int (u0.toUInt32.toUInt16.toUInt32.toInt32)), .val (.int (u1 &&& (15 : Int32))), .val (.int (own_dig own_lo (u1 &&& (15 : Int32)))), .val (.int (own_dig own_up (u1 &&& (15 : Int32)))), .val (.int (own_hx (u0.toUInt32.toUInt16.toUInt32.toInt32))), .val (.int (1 : Int32)), .unset] [(.int (own_hx (own_dig own_lo (u1 &&& (15 : Int32)))))]))
      refine own_st (fun _ k => XS.iloadN X38.here hx rfl (hb hby at_86) rfl k) ?_
      show own_Go _ _ _ _ (T38.setTop (mkF m 87 #[.val (.int u0), .val (.int u1), .val (.int (u0.toUInt32.toUInt16.toUInt32.toInt32)), .val (.int (u1 &&& (15 : Int32))), .val (.int (own_dig own_lo (u1 &&& (15 : Int32)))), .val (.int (own_dig own_up (u1 &&& (15 : Int32)))), .val (.int (own_hx (u0.toUInt32.toUInt16.toUInt32.toInt32))), .val (.int (1 : Int32)), .unset] [(.int (u1 &&& (15 : Int32))), (.int (own_hx (own_dig own_lo (u1 &&& (15 : Int32)))))]))
      refine own_st (fun _ k => XS.icmpNo X38.here hx rfl (hb hby at_87) rfl (teq ((own_rt _ (own_d0 u1) (own_d1 u1)).1)).2 k) ?_
      show own_Go _ _ _ _ (T38.setTop (mkF m 90 #[.val (.int u0), .val (.int u1), .val (.int (u0.toUInt32.toUInt16.toUInt32.toInt32)), .val (.int (u1 &&& (15 : Int32))), .val (.int (own_dig own_lo (u1 &&& (15 : Int32)))), .val (.int (own_dig own_up (u1 &&& (15 : Int32)))), .val (.int (own_hx (u0.toUInt32.toUInt16.toUInt32.toInt32))), .val (.int (1 : Int32)), .unset] []))
      refine own_st (fun _ k => XS.iload X38.here hx rfl (hb hby at_90) rfl k) ?_
      show own_Go _ _ _ _ (T38.setTop (mkF m 92 #[.val (.int u0), .val (.int u1), .val (.int (u0.toUInt32.toUInt16.toUInt32.toInt32)), .val (.int (u1 &&& (15 : Int32))), .val (.int (own_dig own_lo (u1 &&& (15 : Int32)))), .val (.int (own_dig own_up (u1 &&& (15 : Int32)))), .val (.int (own_hx (u0.toUInt32.toUInt16.toUInt32.toInt32))), .val (.int (1 : Int32)), .unset] [(.int (own_dig own_up (u1 &&& (15 : Int32))))]))
      obtain ⟨_, _, ⟨T39, L39, k39, n39⟩, -, X39, ⟨Lc39, hQ39, l39, y39, z39⟩, st39⟩ := Jvm.LawKit.callS X38 hx (y := (⟨"com/example/handler/handler/HttpSyntax", "hexValue", "(C)I"⟩ : MethodName)) hown (mvT hZ (hw _ (List.mem_of_getElem? (i := 41) rfl))) (mvT hZ (hw _ (List.mem_of_getElem? (i := 42) rfl))) (mvT hZ (hw _ (List.mem_of_getElem? (i := 43) rfl))) (mvT hZ (hw _ (List.mem_of_getElem? (i := 44) rfl))) (by decide) (backOf (W := 0) (rm8 l Z a0 hw [] (own_dig own_up (u1 &&& (15 : Int32))) T31.heap n0 Z31 ) hZ (hw _ (List.mem_of_getElem? (i := 44) rfl)) (hw _ (List.mem_of_getElem? (i := 43) rfl)) (by decide) (by decide)) (g := (mkF m 92 #[.val (.int u0), .val (.int u1), .val (.int (u0.toUInt32.toUInt16.toUInt32.toInt32)), .val (.int (u1 &&& (15 : Int32))), .val (.int (own_dig own_lo (u1 &&& (15 : Int32)))), .val (.int (own_dig own_up (u1 &&& (15 : Int32)))), .val (.int (own_hx (u0.toUInt32.toUInt16.toUInt32.toInt32))), .val (.int (1 : Int32)), .unset] [(.int (own_dig own_up (u1 &&& (15 : Int32))))])) rfl (by rw [hml]; rfl) (argsL := [(.int (own_dig own_up (u1 &&& (15 : Int32))))]) (rest := []) (lenOf own_pd5 rfl) rfl (by show 2 * 0 + _ ≤ _; exact Nat.le_of_eq rfl) (hb hby at_92) (fun _ _ => ⟨rfl, eq38, (by decide : 4 + 0 ≤ _), (by decide : 136 + 0 ≤ _)⟩)
      dsimp only [Pt.U, Pt.locs, Pt.cells, Pt.slots] at X39 l39 y39 z39 st39 hQ39
      rw [l39, y39, z39] at X39
      obtain ⟨rfl, Nq39, eq39⟩ := hQ39
      have N39 := Fr.app N38 Nq39
      refine own_st st39 ?_
      show own_Go _ _ _ _ (T39.setTop (mkF m 95 #[.val (.int u0), .val (.int u1), .val (.int (u0.toUInt32.toUInt16.toUInt32.toInt32)), .val (.int (u1 &&& (15 : Int32))), .val (.int (own_dig own_lo (u1 &&& (15 : Int32)))), .val (.int (own_dig own_up (u1 &&& (15 : Int32)))), .val (.int (own_hx (u0.toUInt32.toUInt16.toUInt32.toInt32))), .val (.int (1 : Int32)), .unset] [(.int (own_hx (own_dig own_up (u1 &&& (15 : Int32)))))]))
      refine own_st (fun _ k => XS.iloadN X39.here hx rfl (hb hby at_95) rfl k) ?_
      show own_Go _ _ _ _ (T39.setTop (mkF m 96 #[.val (.int u0), .val (.int u1), .val (.int (u0.toUInt32.toUInt16.toUInt32.toInt32)), .val (.int (u1 &&& (15 : Int32))), .val (.int (own_dig own_lo (u1 &&& (15 : Int32)))), .val (.int (own_dig own_up (u1 &&& (15 : Int32)))), .val (.int (own_hx (u0.toUInt32.toUInt16.toUInt32.toInt32))), .val (.int (1 : Int32)), .unset] [(.int (u1 &&& (15 : Int32))), (.int (own_hx (own_dig own_up (u1 &&& (15 : Int32)))))]))
      refine own_st (fun _ k => XS.icmpNo X39.here hx rfl (hb hby at_96) rfl (teq ((own_rt _ (own_d0 u1) (own_d1 u1)).2)).2 k) ?_
      show own_Go _ _ _ _ (T39.setTop (mkF m 99 #[.val (.int u0), .val (.int u1), .val (.int (u0.toUInt32.toUInt16.toUInt32.toInt32)), .val (.int (u1 &&& (15 : Int32))), .val (.int (own_dig own_lo (u1 &&& (15 : Int32)))), .val (.int (own_dig own_up (u1 &&& (15 : Int32)))), .val (.int (own_hx (u0.toUInt32.toUInt16.toUInt32.toInt32))), .val (.int (1 : Int32)), .unset] []))
      refine own_st (fun _ k => XS.iconst X39.here hx rfl (hb hby at_99) k) ?_
      show own_Go _ _ _ _ (T39.setTop (mkF m 100 #[.val (.int u0), .val (.int u1), .val (.int (u0.toUInt32.toUInt16.toUInt32.toInt32)), .val (.int (u1 &&& (15 : Int32))), .val (.int (own_dig own_lo (u1 &&& (15 : Int32)))), .val (.int (own_dig own_up (u1 &&& (15 : Int32)))), .val (.int (own_hx (u0.toUInt32.toUInt16.toUInt32.toInt32))), .val (.int (1 : Int32)), .unset] [(.int (1 : Int32))]))
      refine own_st (fun _ k => XS.goto X39.here hx rfl (pc0 := 100) (pc' := 104) rfl (hb hby at_100) (by decide) (by decide) k) ?_
      show own_Go _ _ _ _ (T39.setTop (mkF m 104 #[.val (.int u0), .val (.int u1), .val (.int (u0.toUInt32.toUInt16.toUInt32.toInt32)), .val (.int (u1 &&& (15 : Int32))), .val (.int (own_dig own_lo (u1 &&& (15 : Int32)))), .val (.int (own_dig own_up (u1 &&& (15 : Int32)))), .val (.int (own_hx (u0.toUInt32.toUInt16.toUInt32.toInt32))), .val (.int (1 : Int32)), .unset] [(.int (1 : Int32))]))
      refine own_st (fun _ k => XS.istore X39.here hx rfl (hb hby at_104) rfl (l' := #[.val (.int u0), .val (.int u1), .val (.int (u0.toUInt32.toUInt16.toUInt32.toInt32)), .val (.int (u1 &&& (15 : Int32))), .val (.int (own_dig own_lo (u1 &&& (15 : Int32)))), .val (.int (own_dig own_up (u1 &&& (15 : Int32)))), .val (.int (own_hx (u0.toUInt32.toUInt16.toUInt32.toInt32))), .val (.int (1 : Int32)), .val (.int (1 : Int32))]) rfl k) ?_
      show own_Go _ _ _ _ (T39.setTop (mkF m 106 #[.val (.int u0), .val (.int u1), .val (.int (u0.toUInt32.toUInt16.toUInt32.toInt32)), .val (.int (u1 &&& (15 : Int32))), .val (.int (own_dig own_lo (u1 &&& (15 : Int32)))), .val (.int (own_dig own_up (u1 &&& (15 : Int32)))), .val (.int (own_hx (u0.toUInt32.toUInt16.toUInt32.toInt32))), .val (.int (1 : Int32)), .val (.int (1 : Int32))] []))
      refine own_st (fun _ k => XS.iload X39.here hx rfl (hb hby at_106) rfl k) ?_
      show own_Go _ _ _ _ (T39.setTop (mkF m 108 #[.val (.int u0), .val (.int u1), .val (.int (u0.toUInt32.toUInt16.toUInt32.toInt32)), .val (.int (u1 &&& (15 : Int32))), .val (.int (own_dig own_lo (u1 &&& (15 : Int32)))), .val (.int (own_dig own_up (u1 &&& (15 : Int32)))), .val (.int (own_hx (u0.toUInt32.toUInt16.toUInt32.toInt32))), .val (.int (1 : Int32)), .val (.int (1 : Int32))] [(.int (1 : Int32))]))
      refine own_st (fun _ k => XS.ifNo X39.here hx rfl (hb hby at_108) rfl ((if0 _ _).trans (feq (by decide : ¬ ((1 : Int32) = (0 : Int32)))).1) k) ?_
      show own_Go _ _ _ _ (T39.setTop (mkF m 111 #[.val (.int u0), .val (.int u1), .val (.int (u0.toUInt32.toUInt16.toUInt32.toInt32)), .val (.int (u1 &&& (15 : Int32))), .val (.int (own_dig own_lo (u1 &&& (15 : Int32)))), .val (.int (own_dig own_up (u1 &&& (15 : Int32)))), .val (.int (own_hx (u0.toUInt32.toUInt16.toUInt32.toInt32))), .val (.int (1 : Int32)), .val (.int (1 : Int32))] []))
      refine own_st (fun _ k => XS.iload X39.here hx rfl (hb hby at_111) rfl k) ?_
      show own_Go _ _ _ _ (T39.setTop (mkF m 113 #[.val (.int u0), .val (.int u1), .val (.int (u0.toUInt32.toUInt16.toUInt32.toInt32)), .val (.int (u1 &&& (15 : Int32))), .val (.int (own_dig own_lo (u1 &&& (15 : Int32)))), .val (.int (own_dig own_up (u1 &&& (15 : Int32)))), .val (.int (own_hx (u0.toUInt32.toUInt16.toUInt32.toInt32))), .val (.int (1 : Int32)), .val (.int (1 : Int32))] [(.int (1 : Int32))]))
      refine own_st (fun _ k => XS.ifNo X39.here hx rfl (hb hby at_113) rfl ((if0 _ _).trans (feq (by decide : ¬ ((1 : Int32) = (0 : Int32)))).1) k) ?_
      show own_Go _ _ _ _ (T39.setTop (mkF m 116 #[.val (.int u0), .val (.int u1), .val (.int (u0.toUInt32.toUInt16.toUInt32.toInt32)), .val (.int (u1 &&& (15 : Int32))), .val (.int (own_dig own_lo (u1 &&& (15 : Int32)))), .val (.int (own_dig own_up (u1 &&& (15 : Int32)))), .val (.int (own_hx (u0.toUInt32.toUInt16.toUInt32.toInt32))), .val (.int (1 : Int32)), .val (.int (1 : Int32))] []))
      refine own_st (fun _ k => XS.iconst X39.here hx rfl (hb hby at_116) k) ?_
      show own_Go _ _ _ _ (T39.setTop (mkF m 117 #[.val (.int u0), .val (.int u1), .val (.int (u0.toUInt32.toUInt16.toUInt32.toInt32)), .val (.int (u1 &&& (15 : Int32))), .val (.int (own_dig own_lo (u1 &&& (15 : Int32)))), .val (.int (own_dig own_up (u1 &&& (15 : Int32)))), .val (.int (own_hx (u0.toUInt32.toUInt16.toUInt32.toInt32))), .val (.int (1 : Int32)), .val (.int (1 : Int32))] [(.int (1 : Int32))]))
      refine own_st (fun _ k => XS.goto X39.here hx rfl (pc0 := 117) (pc' := 121) rfl (hb hby at_117) (by decide) (by decide) k) ?_
      show own_Go _ _ _ _ (T39.setTop (mkF m 121 #[.val (.int u0), .val (.int u1), .val (.int (u0.toUInt32.toUInt16.toUInt32.toInt32)), .val (.int (u1 &&& (15 : Int32))), .val (.int (own_dig own_lo (u1 &&& (15 : Int32)))), .val (.int (own_dig own_up (u1 &&& (15 : Int32)))), .val (.int (own_hx (u0.toUInt32.toUInt16.toUInt32.toInt32))), .val (.int (1 : Int32)), .val (.int (1 : Int32))] [(.int (1 : Int32))]))
      obtain ⟨fs, hr, hrun, hended, hEnd⟩ := X39.leaveW (s := Z) (vm₁ := T36.vm) hS (by rw [eq39]; exact hk) (v := some (.int (1 : Int32))) (fun h => by rw [Bd.returns] at h; cases h)
      refine own_out (retN X39 hx (t := .boolean) Bd.returns (by simp) (hb hby at_121) hr) ⟨hrun, hended, _, _, rfl, ?_, hEnd.1, hEnd.2.1, hEnd.2.2.1, hEnd.2.2.2.mono (by decide) (by decide)⟩
      show Q0 Z u0 u1 h0 n0 _ T39.heap _
      exact ⟨rfl, N39⟩
    · skip
      refine own_st (fun _ k => XS.icmpNo X36.here hx rfl (hb hby at_56) rfl (feq hc37).1 k) ?_
      show own_Go _ _ _ _ (T36.setTop (mkF m 59 #[.val (.int u0), .val (.int u1), .val (.int (u0.toUInt32.toUInt16.toUInt32.toInt32)), .val (.int (u1 &&& (15 : Int32))), .val (.int (own_dig own_lo (u1 &&& (15 : Int32)))), .val (.int (own_dig own_up (u1 &&& (15 : Int32)))), .val (.int (own_hx (u0.toUInt32.toUInt16.toUInt32.toInt32))), .unset, .unset] []))
      refine own_st (fun _ k => XS.iloadN X36.here hx rfl (hb hby at_59) rfl k) ?_
      show own_Go _ _ _ _ (T36.setTop (mkF m 60 #[.val (.int u0), .val (.int u1), .val (.int (u0.toUInt32.toUInt16.toUInt32.toInt32)), .val (.int (u1 &&& (15 : Int32))), .val (.int (own_dig own_lo (u1 &&& (15 : Int32)))), .val (.int (own_dig own_up (u1 &&& (15 : Int32)))), .val (.int (own_hx (u0.toUInt32.toUInt16.toUInt32.toInt32))), .unset, .unset] [(.int (u0.toUInt32.toUInt16.toUInt32.toInt32))]))
      refine own_st (fun _ k => XS.iload X36.here hx rfl (hb hby at_60) rfl k) ?_
      show own_Go _ _ _ _ (T36.setTop (mkF m 62 #[.val (.int u0), .val (.int u1), .val (.int (u0.toUInt32.toUInt16.toUInt32.toInt32)), .val (.int (u1 &&& (15 : Int32))), .val (.int (own_dig own_lo (u1 &&& (15 : Int32)))), .val (.int (own_dig own_up (u1 &&& (15 : Int32)))), .val (.int (own_hx (u0.toUInt32.toUInt16.toUInt32.toInt32))), .unset, .unset] [(.int (own_hx (u0.toUInt32.toUInt16.toUInt32.toInt32))), (.int (u0.toUInt32.toUInt16.toUInt32.toInt32))]))
      obtain ⟨_, vm40, ⟨T40, L40, k40, n40⟩, hvm40, X40, hSi40, hgr40, ⟨Lc40, hQ40, l40, y40, z40⟩, st40⟩ := callSS (s := (Z.setVm T36.vm)) X36 hx (y := (⟨"com/example/handler/handler/HttpSyntaxHexValuePinLaw", "upperDigit", "(I)C"⟩ : MethodName)) hown (mvT hZ (hw _ (List.mem_of_getElem? (i := 37) rfl))) (mvT hZ (hw _ (List.mem_of_getElem? (i := 38) rfl))) (mvT hZ (hw _ (List.mem_of_getElem? (i := 2) rfl))) (mvT hZ (hw _ (List.mem_of_getElem? (i := 39) rfl))) (by decide) (own_backS (s := (Z.setVm T36.vm)) (W := 1) (rm7a l Z a0 hw [] (Z.setVm T36.vm) a31 b31 kk31 (own_hx (u0.toUInt32.toUInt16.toUInt32.toInt32)) fv G1 T31.heap n0 Z31 x31_S_java_lang_String_COMPACT_STRINGS hG x31_S_jdk_internal_util_Preconditions_SIOOBE_FORMATTER rG hr0 hr1 Lj36_15 A31 Fc31 Fv31 V31) hZ (hw _ (List.mem_of_getElem? (i := 39) rfl)) (hw _ (List.mem_of_getElem? (i := 2) rfl)) (by decide) (by decide)) (g := (mkF m 62 #[.val (.int u0), .val (.int u1), .val (.int (u0.toUInt32.toUInt16.toUInt32.toInt32)), .val (.int (u1 &&& (15 : Int32))), .val (.int (own_dig own_lo (u1 &&& (15 : Int32)))), .val (.int (own_dig own_up (u1 &&& (15 : Int32)))), .val (.int (own_hx (u0.toUInt32.toUInt16.toUInt32.toInt32))), .unset, .unset] [(.int (own_hx (u0.toUInt32.toUInt16.toUInt32.toInt32))), (.int (u0.toUInt32.toUInt16.toUInt32.toInt32))])) rfl (by rw [hml]; rfl) (argsL := [(.int (own_hx (u0.toUInt32.toUInt16.toUInt32.toInt32)))]) (rest := [(.int (u0.toUInt32.toUInt16.toUInt32.toInt32))]) (lenOf own_pd4 rfl) rfl (by show 2 * 0 + _ ≤ _; exact Nat.le_of_eq rfl) (hb hby at_62) (fun _ _ => ⟨rfl, eq36, (by decide : 4 + 0 ≤ _), (by decide : 136 + 0 ≤ _)⟩)
      dsimp only [Pt.U, Pt.locs, Pt.cells, Pt.slots] at X40 l40 y40 z40 st40 hQ40 hSi40 hgr40
      rw [l40, y40, z40] at X40
      obtain ⟨X40, hS, hZ, hown⟩ := rebS (s := Z) (vm0 := T36.vm) hS (by rw [eq36]; exact hk) X40 hSi40 hgr40 hZ hown
      obtain ⟨rfl, Nq40, eq40⟩ := hQ40
      rw [eq40] at hS
      have N40 := Fr.app N36 Nq40
      refine own_tr st40 ?_
      have Lj40_7 := Lit.stays Lj36_7 hSi40.1
      have Lj40_15 := Lit.stays Lj36_15 hSi40.1
      show own_Go _ _ _ _ (T40.setTop (mkF m 65 #[.val (.int u0), .val (.int u1), .val (.int (u0.toUInt32.toUInt16.toUInt32.toInt32)), .val (.int (u1 &&& (15 : Int32))), .val (.int (own_dig own_lo (u1 &&& (15 : Int32)))), .val (.int (own_dig own_up (u1 &&& (15 : Int32)))), .val (.int (own_hx (u0.toUInt32.toUInt16.toUInt32.toInt32))), .unset, .unset] [(.int (own_dig own_up (own_hx (u0.toUInt32.toUInt16.toUInt32.toInt32)))), (.int (u0.toUInt32.toUInt16.toUInt32.toInt32))]))
      refine own_st (fun _ k => XS.icmpNo X40.here hx rfl (hb hby at_65) rfl (teq (hs.2.resolve_left hc37)).2 k) ?_
      show own_Go _ _ _ _ (T40.setTop (mkF m 68 #[.val (.int u0), .val (.int u1), .val (.int (u0.toUInt32.toUInt16.toUInt32.toInt32)), .val (.int (u1 &&& (15 : Int32))), .val (.int (own_dig own_lo (u1 &&& (15 : Int32)))), .val (.int (own_dig own_up (u1 &&& (15 : Int32)))), .val (.int (own_hx (u0.toUInt32.toUInt16.toUInt32.toInt32))), .unset, .unset] []))
      refine own_st (fun _ k => XS.iconst X40.here hx rfl (hb hby at_68) k) ?_
      show own_Go _ _ _ _ (T40.setTop (mkF m 69 #[.val (.int u0), .val (.int u1), .val (.int (u0.toUInt32.toUInt16.toUInt32.toInt32)), .val (.int (u1 &&& (15 : Int32))), .val (.int (own_dig own_lo (u1 &&& (15 : Int32)))), .val (.int (own_dig own_up (u1 &&& (15 : Int32)))), .val (.int (own_hx (u0.toUInt32.toUInt16.toUInt32.toInt32))), .unset, .unset] [(.int (1 : Int32))]))
      refine own_st (fun _ k => XS.goto X40.here hx rfl (pc0 := 69) (pc' := 73) rfl (hb hby at_69) (by decide) (by decide) k) ?_
      show own_Go _ _ _ _ (T40.setTop (mkF m 73 #[.val (.int u0), .val (.int u1), .val (.int (u0.toUInt32.toUInt16.toUInt32.toInt32)), .val (.int (u1 &&& (15 : Int32))), .val (.int (own_dig own_lo (u1 &&& (15 : Int32)))), .val (.int (own_dig own_up (u1 &&& (15 : Int32)))), .val (.int (own_hx (u0.toUInt32.toUInt16.toUInt32.toInt32))), .unset, .unset] [(.int (1 : Int32))]))
      refine own_st (fun _ k => XS.istore X40.here hx rfl (hb hby at_73) rfl (l' := #[.val (.int u0), .val (.int u1), .val (.int (u0.toUInt32.toUInt16.toUInt32.toInt32)), .val (.int (u1 &&& (15 : Int32))), .val (.int (own_dig own_lo (u1 &&& (15 : Int32)))), .val (.int (own_dig own_up (u1 &&& (15 : Int32)))), .val (.int (own_hx (u0.toUInt32.toUInt16.toUInt32.toInt32))), .val (.int (1 : Int32)), .unset]) rfl k) ?_
      show own_Go _ _ _ _ (T40.setTop (mkF m 75 #[.val (.int u0), .val (.int u1), .val (.int (u0.toUInt32.toUInt16.toUInt32.toInt32)), .val (.int (u1 &&& (15 : Int32))), .val (.int (own_dig own_lo (u1 &&& (15 : Int32)))), .val (.int (own_dig own_up (u1 &&& (15 : Int32)))), .val (.int (own_hx (u0.toUInt32.toUInt16.toUInt32.toInt32))), .val (.int (1 : Int32)), .unset] []))
      refine own_st (fun _ k => XS.goto X40.here hx rfl (pc0 := 75) (pc' := 81) rfl (hb hby at_75) (by decide) (by decide) k) ?_
      show own_Go _ _ _ _ (T40.setTop (mkF m 81 #[.val (.int u0), .val (.int u1), .val (.int (u0.toUInt32.toUInt16.toUInt32.toInt32)), .val (.int (u1 &&& (15 : Int32))), .val (.int (own_dig own_lo (u1 &&& (15 : Int32)))), .val (.int (own_dig own_up (u1 &&& (15 : Int32)))), .val (.int (own_hx (u0.toUInt32.toUInt16.toUInt32.toInt32))), .val (.int (1 : Int32)), .unset] []))
      refine own_st (fun _ k => XS.iload X40.here hx rfl (hb hby at_81) rfl k) ?_
      show own_Go _ _ _ _ (T40.setTop (mkF m 83 #[.val (.int u0), .val (.int u1), .val (.int (u0.toUInt32.toUInt16.toUInt32.toInt32)), .val (.int (u1 &&& (15 : Int32))), .val (.int (own_dig own_lo (u1 &&& (15 : Int32)))), .val (.int (own_dig own_up (u1 &&& (15 : Int32)))), .val (.int (own_hx (u0.toUInt32.toUInt16.toUInt32.toInt32))), .val (.int (1 : Int32)), .unset] [(.int (own_dig own_lo (u1 &&& (15 : Int32))))]))
      obtain ⟨_, _, ⟨T41, L41, k41, n41⟩, -, X41, ⟨Lc41, hQ41, l41, y41, z41⟩, st41⟩ := Jvm.LawKit.callS X40 hx (y := (⟨"com/example/handler/handler/HttpSyntax", "hexValue", "(C)I"⟩ : MethodName)) hown (mvT hZ (hw _ (List.mem_of_getElem? (i := 41) rfl))) (mvT hZ (hw _ (List.mem_of_getElem? (i := 42) rfl))) (mvT hZ (hw _ (List.mem_of_getElem? (i := 43) rfl))) (mvT hZ (hw _ (List.mem_of_getElem? (i := 44) rfl))) (by decide) (backOf (W := 0) (rm8 l Z a0 hw [] (own_dig own_lo (u1 &&& (15 : Int32))) T31.heap n0 Z31 ) hZ (hw _ (List.mem_of_getElem? (i := 44) rfl)) (hw _ (List.mem_of_getElem? (i := 43) rfl)) (by decide) (by decide)) (g := (mkF m 83 #[.val (.int u0), .val (.int u1), .val (.int (u0.toUInt32.toUInt16.toUInt32.toInt32)), .val (.int (u1 &&& (15 : Int32))), .val (.int (own_dig own_lo (u1 &&& (15 : Int32)))), .val (.int (own_dig own_up (u1 &&& (15 : Int32)))), .val (.int (own_hx (u0.toUInt32.toUInt16.toUInt32.toInt32))), .val (.int (1 : Int32)), .unset] [(.int (own_dig own_lo (u1 &&& (15 : Int32))))])) rfl (by rw [hml]; rfl) (argsL := [(.int (own_dig own_lo (u1 &&& (15 : Int32))))]) (rest := []) (lenOf own_pd5 rfl) rfl (by show 2 * 0 + _ ≤ _; exact Nat.le_of_eq rfl) (hb hby at_83) (fun _ _ => ⟨rfl, eq40, (by decide : 4 + 0 ≤ _), (by decide : 136 + 0 ≤ _)⟩)
      dsimp only [Pt.U, Pt.locs, Pt.cells, Pt.slots] at X41 l41 y41 z41 st41 hQ41
      rw [l41, y41, z41] at X41
      obtain ⟨rfl, Nq41, eq41⟩ := hQ41
      have N41 := Fr.app N40 Nq41
      refine own_st st41 ?_
      show own_Go _ _ _ _ (T41.setTop (mkF m 86 #[.val (.int u0), .val (.int u1), .val (.int (u0.toUInt32.toUInt16.toUInt32.toInt32)), .val (.int (u1 &&& (15 : Int32))), .val (.int (own_dig own_lo (u1 &&& (15 : Int32)))), .val (.int (own_dig own_up (u1 &&& (15 : Int32)))), .val (.int (own_hx (u0.toUInt32.toUInt16.toUInt32.toInt32))), .val (.int (1 : Int32)), .unset] [(.int (own_hx (own_dig own_lo (u1 &&& (15 : Int32)))))]))
      refine own_st (fun _ k => XS.iloadN X41.here hx rfl (hb hby at_86) rfl k) ?_
      show own_Go _ _ _ _ (T41.setTop (mkF m 87 #[.val (.int u0), .val (.int u1), .val (.int (u0.toUInt32.toUInt16.toUInt32.toInt32)), .val (.int (u1 &&& (15 : Int32))), .val (.int (own_dig own_lo (u1 &&& (15 : Int32)))), .val (.int (own_dig own_up (u1 &&& (15 : Int32)))), .val (.int (own_hx (u0.toUInt32.toUInt16.toUInt32.toInt32))), .val (.int (1 : Int32)), .unset] [(.int (u1 &&& (15 : Int32))), (.int (own_hx (own_dig own_lo (u1 &&& (15 : Int32)))))]))
      refine own_st (fun _ k => XS.icmpNo X41.here hx rfl (hb hby at_87) rfl (teq ((own_rt _ (own_d0 u1) (own_d1 u1)).1)).2 k) ?_
      show own_Go _ _ _ _ (T41.setTop (mkF m 90 #[.val (.int u0), .val (.int u1), .val (.int (u0.toUInt32.toUInt16.toUInt32.toInt32)), .val (.int (u1 &&& (15 : Int32))), .val (.int (own_dig own_lo (u1 &&& (15 : Int32)))), .val (.int (own_dig own_up (u1 &&& (15 : Int32)))), .val (.int (own_hx (u0.toUInt32.toUInt16.toUInt32.toInt32))), .val (.int (1 : Int32)), .unset] []))
      refine own_st (fun _ k => XS.iload X41.here hx rfl (hb hby at_90) rfl k) ?_
      show own_Go _ _ _ _ (T41.setTop (mkF m 92 #[.val (.int u0), .val (.int u1), .val (.int (u0.toUInt32.toUInt16.toUInt32.toInt32)), .val (.int (u1 &&& (15 : Int32))), .val (.int (own_dig own_lo (u1 &&& (15 : Int32)))), .val (.int (own_dig own_up (u1 &&& (15 : Int32)))), .val (.int (own_hx (u0.toUInt32.toUInt16.toUInt32.toInt32))), .val (.int (1 : Int32)), .unset] [(.int (own_dig own_up (u1 &&& (15 : Int32))))]))
      obtain ⟨_, _, ⟨T42, L42, k42, n42⟩, -, X42, ⟨Lc42, hQ42, l42, y42, z42⟩, st42⟩ := Jvm.LawKit.callS X41 hx (y := (⟨"com/example/handler/handler/HttpSyntax", "hexValue", "(C)I"⟩ : MethodName)) hown (mvT hZ (hw _ (List.mem_of_getElem? (i := 41) rfl))) (mvT hZ (hw _ (List.mem_of_getElem? (i := 42) rfl))) (mvT hZ (hw _ (List.mem_of_getElem? (i := 43) rfl))) (mvT hZ (hw _ (List.mem_of_getElem? (i := 44) rfl))) (by decide) (backOf (W := 0) (rm8 l Z a0 hw [] (own_dig own_up (u1 &&& (15 : Int32))) T31.heap n0 Z31 ) hZ (hw _ (List.mem_of_getElem? (i := 44) rfl)) (hw _ (List.mem_of_getElem? (i := 43) rfl)) (by decide) (by decide)) (g := (mkF m 92 #[.val (.int u0), .val (.int u1), .val (.int (u0.toUInt32.toUInt16.toUInt32.toInt32)), .val (.int (u1 &&& (15 : Int32))), .val (.int (own_dig own_lo (u1 &&& (15 : Int32)))), .val (.int (own_dig own_up (u1 &&& (15 : Int32)))), .val (.int (own_hx (u0.toUInt32.toUInt16.toUInt32.toInt32))), .val (.int (1 : Int32)), .unset] [(.int (own_dig own_up (u1 &&& (15 : Int32))))])) rfl (by rw [hml]; rfl) (argsL := [(.int (own_dig own_up (u1 &&& (15 : Int32))))]) (rest := []) (lenOf own_pd5 rfl) rfl (by show 2 * 0 + _ ≤ _; exact Nat.le_of_eq rfl) (hb hby at_92) (fun _ _ => ⟨rfl, eq41, (by decide : 4 + 0 ≤ _), (by decide : 136 + 0 ≤ _)⟩)
      dsimp only [Pt.U, Pt.locs, Pt.cells, Pt.slots] at X42 l42 y42 z42 st42 hQ42
      rw [l42, y42, z42] at X42
      obtain ⟨rfl, Nq42, eq42⟩ := hQ42
      have N42 := Fr.app N41 Nq42
      refine own_st st42 ?_
      show own_Go _ _ _ _ (T42.setTop (mkF m 95 #[.val (.int u0), .val (.int u1), .val (.int (u0.toUInt32.toUInt16.toUInt32.toInt32)), .val (.int (u1 &&& (15 : Int32))), .val (.int (own_dig own_lo (u1 &&& (15 : Int32)))), .val (.int (own_dig own_up (u1 &&& (15 : Int32)))), .val (.int (own_hx (u0.toUInt32.toUInt16.toUInt32.toInt32))), .val (.int (1 : Int32)), .unset] [(.int (own_hx (own_dig own_up (u1 &&& (15 : Int32)))))]))
      refine own_st (fun _ k => XS.iloadN X42.here hx rfl (hb hby at_95) rfl k) ?_
      show own_Go _ _ _ _ (T42.setTop (mkF m 96 #[.val (.int u0), .val (.int u1), .val (.int (u0.toUInt32.toUInt16.toUInt32.toInt32)), .val (.int (u1 &&& (15 : Int32))), .val (.int (own_dig own_lo (u1 &&& (15 : Int32)))), .val (.int (own_dig own_up (u1 &&& (15 : Int32)))), .val (.int (own_hx (u0.toUInt32.toUInt16.toUInt32.toInt32))), .val (.int (1 : Int32)), .unset] [(.int (u1 &&& (15 : Int32))), (.int (own_hx (own_dig own_up (u1 &&& (15 : Int32)))))]))
      refine own_st (fun _ k => XS.icmpNo X42.here hx rfl (hb hby at_96) rfl (teq ((own_rt _ (own_d0 u1) (own_d1 u1)).2)).2 k) ?_
      show own_Go _ _ _ _ (T42.setTop (mkF m 99 #[.val (.int u0), .val (.int u1), .val (.int (u0.toUInt32.toUInt16.toUInt32.toInt32)), .val (.int (u1 &&& (15 : Int32))), .val (.int (own_dig own_lo (u1 &&& (15 : Int32)))), .val (.int (own_dig own_up (u1 &&& (15 : Int32)))), .val (.int (own_hx (u0.toUInt32.toUInt16.toUInt32.toInt32))), .val (.int (1 : Int32)), .unset] []))
      refine own_st (fun _ k => XS.iconst X42.here hx rfl (hb hby at_99) k) ?_
      show own_Go _ _ _ _ (T42.setTop (mkF m 100 #[.val (.int u0), .val (.int u1), .val (.int (u0.toUInt32.toUInt16.toUInt32.toInt32)), .val (.int (u1 &&& (15 : Int32))), .val (.int (own_dig own_lo (u1 &&& (15 : Int32)))), .val (.int (own_dig own_up (u1 &&& (15 : Int32)))), .val (.int (own_hx (u0.toUInt32.toUInt16.toUInt32.toInt32))), .val (.int (1 : Int32)), .unset] [(.int (1 : Int32))]))
      refine own_st (fun _ k => XS.goto X42.here hx rfl (pc0 := 100) (pc' := 104) rfl (hb hby at_100) (by decide) (by decide) k) ?_
      show own_Go _ _ _ _ (T42.setTop (mkF m 104 #[.val (.int u0), .val (.int u1), .val (.int (u0.toUInt32.toUInt16.toUInt32.toInt32)), .val (.int (u1 &&& (15 : Int32))), .val (.int (own_dig own_lo (u1 &&& (15 : Int32)))), .val (.int (own_dig own_up (u1 &&& (15 : Int32)))), .val (.int (own_hx (u0.toUInt32.toUInt16.toUInt32.toInt32))), .val (.int (1 : Int32)), .unset] [(.int (1 : Int32))]))
      refine own_st (fun _ k => XS.istore X42.here hx rfl (hb hby at_104) rfl (l' := #[.val (.int u0), .val (.int u1), .val (.int (u0.toUInt32.toUInt16.toUInt32.toInt32)), .val (.int (u1 &&& (15 : Int32))), .val (.int (own_dig own_lo (u1 &&& (15 : Int32)))), .val (.int (own_dig own_up (u1 &&& (15 : Int32)))), .val (.int (own_hx (u0.toUInt32.toUInt16.toUInt32.toInt32))), .val (.int (1 : Int32)), .val (.int (1 : Int32))]) rfl k) ?_
      show own_Go _ _ _ _ (T42.setTop (mkF m 106 #[.val (.int u0), .val (.int u1), .val (.int (u0.toUInt32.toUInt16.toUInt32.toInt32)), .val (.int (u1 &&& (15 : Int32))), .val (.int (own_dig own_lo (u1 &&& (15 : Int32)))), .val (.int (own_dig own_up (u1 &&& (15 : Int32)))), .val (.int (own_hx (u0.toUInt32.toUInt16.toUInt32.toInt32))), .val (.int (1 : Int32)), .val (.int (1 : Int32))] []))
      refine own_st (fun _ k => XS.iload X42.here hx rfl (hb hby at_106) rfl k) ?_
      show own_Go _ _ _ _ (T42.setTop (mkF m 108 #[.val (.int u0), .val (.int u1), .val (.int (u0.toUInt32.toUInt16.toUInt32.toInt32)), .val (.int (u1 &&& (15 : Int32))), .val (.int (own_dig own_lo (u1 &&& (15 : Int32)))), .val (.int (own_dig own_up (u1 &&& (15 : Int32)))), .val (.int (own_hx (u0.toUInt32.toUInt16.toUInt32.toInt32))), .val (.int (1 : Int32)), .val (.int (1 : Int32))] [(.int (1 : Int32))]))
      refine own_st (fun _ k => XS.ifNo X42.here hx rfl (hb hby at_108) rfl ((if0 _ _).trans (feq (by decide : ¬ ((1 : Int32) = (0 : Int32)))).1) k) ?_
      show own_Go _ _ _ _ (T42.setTop (mkF m 111 #[.val (.int u0), .val (.int u1), .val (.int (u0.toUInt32.toUInt16.toUInt32.toInt32)), .val (.int (u1 &&& (15 : Int32))), .val (.int (own_dig own_lo (u1 &&& (15 : Int32)))), .val (.int (own_dig own_up (u1 &&& (15 : Int32)))), .val (.int (own_hx (u0.toUInt32.toUInt16.toUInt32.toInt32))), .val (.int (1 : Int32)), .val (.int (1 : Int32))] []))
      refine own_st (fun _ k => XS.iload X42.here hx rfl (hb hby at_111) rfl k) ?_
      show own_Go _ _ _ _ (T42.setTop (mkF m 113 #[.val (.int u0), .val (.int u1), .val (.int (u0.toUInt32.toUInt16.toUInt32.toInt32)), .val (.int (u1 &&& (15 : Int32))), .val (.int (own_dig own_lo (u1 &&& (15 : Int32)))), .val (.int (own_dig own_up (u1 &&& (15 : Int32)))), .val (.int (own_hx (u0.toUInt32.toUInt16.toUInt32.toInt32))), .val (.int (1 : Int32)), .val (.int (1 : Int32))] [(.int (1 : Int32))]))
      refine own_st (fun _ k => XS.ifNo X42.here hx rfl (hb hby at_113) rfl ((if0 _ _).trans (feq (by decide : ¬ ((1 : Int32) = (0 : Int32)))).1) k) ?_
      show own_Go _ _ _ _ (T42.setTop (mkF m 116 #[.val (.int u0), .val (.int u1), .val (.int (u0.toUInt32.toUInt16.toUInt32.toInt32)), .val (.int (u1 &&& (15 : Int32))), .val (.int (own_dig own_lo (u1 &&& (15 : Int32)))), .val (.int (own_dig own_up (u1 &&& (15 : Int32)))), .val (.int (own_hx (u0.toUInt32.toUInt16.toUInt32.toInt32))), .val (.int (1 : Int32)), .val (.int (1 : Int32))] []))
      refine own_st (fun _ k => XS.iconst X42.here hx rfl (hb hby at_116) k) ?_
      show own_Go _ _ _ _ (T42.setTop (mkF m 117 #[.val (.int u0), .val (.int u1), .val (.int (u0.toUInt32.toUInt16.toUInt32.toInt32)), .val (.int (u1 &&& (15 : Int32))), .val (.int (own_dig own_lo (u1 &&& (15 : Int32)))), .val (.int (own_dig own_up (u1 &&& (15 : Int32)))), .val (.int (own_hx (u0.toUInt32.toUInt16.toUInt32.toInt32))), .val (.int (1 : Int32)), .val (.int (1 : Int32))] [(.int (1 : Int32))]))
      refine own_st (fun _ k => XS.goto X42.here hx rfl (pc0 := 117) (pc' := 121) rfl (hb hby at_117) (by decide) (by decide) k) ?_
      show own_Go _ _ _ _ (T42.setTop (mkF m 121 #[.val (.int u0), .val (.int u1), .val (.int (u0.toUInt32.toUInt16.toUInt32.toInt32)), .val (.int (u1 &&& (15 : Int32))), .val (.int (own_dig own_lo (u1 &&& (15 : Int32)))), .val (.int (own_dig own_up (u1 &&& (15 : Int32)))), .val (.int (own_hx (u0.toUInt32.toUInt16.toUInt32.toInt32))), .val (.int (1 : Int32)), .val (.int (1 : Int32))] [(.int (1 : Int32))]))
      obtain ⟨fs, hr, hrun, hended, hEnd⟩ := X42.leaveW (s := Z) (vm₁ := T40.vm) hS (by rw [eq42]; exact hk) (v := some (.int (1 : Int32))) (fun h => by rw [Bd.returns] at h; cases h)
      refine own_out (retN X42 hx (t := .boolean) Bd.returns (by simp) (hb hby at_121) hr) ⟨hrun, hended, _, _, rfl, ?_, hEnd.1, hEnd.2.1, hEnd.2.2.1, hEnd.2.2.2.mono (by decide) (by decide)⟩
      show Q0 Z u0 u1 h0 n0 _ T42.heap _
      exact ⟨rfl, N42⟩
set_option maxRecDepth 65536 in
set_option maxHeartbeats 40000000 in
theorem comes_1 {Post : Tables → Env → Array Value → State → Outcome → State → Prop} (hpost : ∀ tb e args s v u, (limb_1_1.after args s (.returned v) u = true ∧ limb_1_2.after args s (.returned v) u = true ∧ True) → FramedW s (.returned v) u (Jvm.fieldLocs frame_1_writes args s ++ Jvm.arrayLocs frame_1_arrays args s ++ Jvm.staticLocs frame_1_statics s) 8 2112 → Post tb e args s (.returned v) u) :
    ArmFor flags0 classFile x code maxLocals ret World_1 tables_1 room_1 Calls_1 rest_1 Pre_1 Post := by
  intro l hfl _ _ p e ha hc hk s m args below hf hA hF happ hP
  obtain ⟨hcalls, hrest, hpre⟩ := hP
  obtain ⟨-, -, -, hnamed, -, -, -, hat⟩ := (Spec.applies_iff hf).mp happ
  obtain ⟨hg, hn⟩ := and_e (Cond.before_iff.mp (show (Jvm.Cond.and given_1 narrow_1).before args s = true from hpre))
  obtain ⟨h1, h2⟩ := and_e hg
  obtain ⟨ha0, h2⟩ := and_e h2
  have ha1 := h2
  obtain ⟨w0, w1, rfl⟩ : ∃ w0 w1 : Value, args = #[w0, w1] := by
    have hs : args.size = 2 := by simpa [Cond.value, given_1] using h1
    obtain ⟨L⟩ := args
    match L, hs with
    | [w0, w1], _ => exact ⟨w0, w1, rfl⟩
  have hw := fun d (hd : d ∈ tables_1) => atoms_spec (ws := Jvm.Cond.code x code maxLocals ret :: tables_1) hat d (List.mem_cons_of_mem _ hd)
  obtain ⟨hsets, hown0⟩ := atoms_of _ (rest_1_c_eq ▸ (show rest_1_c.before _ s = true from hrest))
  obtain ⟨i0, ei0⟩ := is_v ha0
  obtain rfl : w0 = (.int i0) := Option.some.inj ei0
  obtain ⟨i1, ei1⟩ := is_v ha1
  obtain rfl : w1 = (.int i1) := Option.some.inj ei1
  have n5 := not_v (Cond.before_iff.mp (hsets _ (List.mem_of_getElem? (i := 2) rfl)))
  obtain ⟨G1, eG⟩ := is_v (Cond.before_iff.mp (hsets _ (List.mem_of_getElem? (i := 1) rfl)))
  have S1 : Sta s s.heap "java/lang/String" "COMPACT_STRINGS" "Z" (.int G1) := Sta.start eG (Or.inl (hsets _ (List.mem_of_getElem? (i := 0) rfl)))
  obtain ⟨fv, ef, rG⟩ := isR_v (Cond.before_iff.mp (hsets _ (List.mem_of_getElem? (i := 8) rfl)))
  have S3 : Sta s s.heap "jdk/internal/util/Preconditions" "SIOOBE_FORMATTER" "Ljava/util/function/BiFunction;" fv := Sta.start ef (Or.inl (hsets _ (List.mem_of_getElem? (i := 7) rfl)))
  have hG : ¬ (G1 = (0 : Int32)) := gotF (Cond.eq_ints eG (Term.int_eval (0))) n5
  have hcw := hsets _ (List.mem_of_getElem? (i := 2) rfl)
  have hcl := hcalls.1
  have hc7 : Jvm.Lit.constHeld s "com/example/handler/handler/HttpSyntaxHexValuePinLaw" 7 := hcl ("com/example/handler/handler/HttpSyntaxHexValuePinLaw", 7) (List.mem_of_getElem? (i := 0) rfl)
  have hc15 : Jvm.Lit.constHeld s "com/example/handler/handler/HttpSyntaxHexValuePinLaw" 15 := hcl ("com/example/handler/handler/HttpSyntaxHexValuePinLaw", 15) (List.mem_of_getElem? (i := 1) rfl)
  obtain ⟨n, o, h1, h2, h3, _, L, rfl, ⟨rfl, N⟩, hq⟩ := rm0 l s _ hw tables_1 i0 i1 fv G1 s.heap s.heap.size rfl rfl S1 hG S3 rG hcw hc7 hc15 p e ha hc hk s m _ below hf ((Spec.applies_iff_loose hf).mp happ).1 ⟨rfl, rfl⟩ trivial
  refine ⟨n, _, h1, h2, h3, hpost _ _ _ _ _ _ ⟨Cond.after_iff.mpr rfl, Cond.after_iff.mpr (eq_i res_at (Term.int_eval (1)) rfl), trivial⟩ ⟨hq.1, hq.2.1, hq.2.2.1, (hq.2.2.2.sift fun y hy => Or.inr (N y hy)).mono (by decide) (by decide)⟩⟩
theorem main_1_1 : Claimed_1_1 := comes_1 fun _ _ _ _ _ _ h hF => ⟨h.1, hF⟩
theorem main_1_2 : Claimed_1_2 := comes_1 fun _ _ _ _ _ _ h hF => ⟨h.2.1, hF⟩
end Jvm.Pilot.@@N@@
namespace Jvm.Pilot.@@N@@
open Jvm Jvm.ClassFile Sem Op Lib Jvm.Free Jvm.Stand Jvm.Pilot.@@N@@.Jvm.D
/-! MADE BY PROGRAM (witnessworld.py) out of the Statement's table words and the real class files: 17 classes; the members and pool entries that the words name. The judged class is class 1, her method 3. -/
namespace start1
open Jvm.ClassFile
def u (s : String) : CpInfo := .utf8 (stringToUtf16 s)
/-- a pool by its gaps: so many unusable entries, then the entry; so many at the end -/
def gap : Nat → List CpInfo → List CpInfo
  | 0, r => r
  | n + 1, r => .unusable :: gap n r
def poolList (es : List (Nat × CpInfo)) (last : Nat) : List CpInfo := es.foldr (fun e r => gap e.1 (e.2 :: r)) (gap last [])
def pool (es : List (Nat × CpInfo)) (last : Nat) : Array CpInfo := ⟨poolList es last⟩
def fileOf (pool : Array CpInfo) (this : Nat) (attrs : Array Attribute := #[]) (ms : Array MethodInfo := #[]) (fl : Nat := 33) (sup : Nat := 0) (ifs : Array Nat := #[]) (fds : Array FieldInfo := #[]) : ClassFile where
  minorVersion := 0
  majorVersion := 65
  constantPool := pool
  accessFlags := fl
  thisClass := this
  superClass := sup
  interfaces := ifs
  fields := fds
  methods := ms
  attributes := attrs
def plain (name : String) (sup : Option ClassId) : Class where
  name := name
  kind := .ordinary
  loader := none
  accessFlags := 33
  super := sup
  interfaces := #[]
  cf := none
  fields := #[]
  methods := #[]
  instanceTypes := #[]
  staticTypes := #[]
  resolved := #[]
  callSites := []
  init := .initialized
  statics := none
  mirror := none

def pool0 : Array CpInfo := pool [(5, u "<init>"), (0, u "()V"), (1, .class_ 10), (1, u "java/lang/Object")] 113

def k0m0 : Method := { name := "<init>", desc := "()V", sig := { parameters := [], returnType := none }, accessFlags := 1, code := none }
/-- java/lang/Object -/
def k0 : Class := { plain "java/lang/Object" none with
  accessFlags := 33
  interfaces := #[]
  cf := some (fileOf pool0 8 #[] #[{ accessFlags := 1, nameIndex := 5, descriptorIndex := 6, attributes := #[] }] 33 0 #[] #[])
  fields := #[]
  methods := #[k0m0]
  instanceTypes := #[]
  staticTypes := #[]
  resolved := Array.replicate 124 none
  statics := none }

def pool1 : Array CpInfo := pool [(2, .class_ 4), (1, u "java/lang/Object"), (0, u "<init>"), (0, u "()V"), (0, .string 8), (0, u "0123456789abcdef"), (0, .methodref 10 11), (0, .class_ 12), (0, .nameAndType 13 14), (0, u "java/lang/String"), (0, u "charAt"), (0, u "(I)C"), (0, .string 16), (0, u "0123456789ABCDEF"), (0, .methodref 18 19), (0, .class_ 20), (0, .nameAndType 21 14), (0, u "com/example/handler/handler/HttpSyntaxHexValuePinLaw"), (0, u "lowerDigit"), (0, .methodref 18 23), (0, .nameAndType 24 14), (0, u "upperDigit"), (0, .methodref 26 27), (0, .class_ 28), (0, .nameAndType 29 30), (0, u "com/example/handler/handler/HttpSyntax"), (0, u "hexValue"), (0, u "(C)I"), (2, u "law"), (0, u "(II)Z")] 3

def k1m0 : Method := { name := "<init>", desc := "()V", sig := { parameters := [], returnType := none }, accessFlags := 2, code := none }
def k1c1 : Code := { maxStack := 2, maxLocals := 1, code := method_2_code, exceptionTable := #[], attributes := #[] }
def k1m1 : Method := { name := "lowerDigit", desc := "(I)C", sig := { parameters := [.int], returnType := some .char }, accessFlags := 10, code := some k1c1 }
def k1c2 : Code := { maxStack := 2, maxLocals := 1, code := method_3_code, exceptionTable := #[], attributes := #[] }
def k1m2 : Method := { name := "upperDigit", desc := "(I)C", sig := { parameters := [.int], returnType := some .char }, accessFlags := 10, code := some k1c2 }
def k1c3 : Code := { maxStack := 2, maxLocals := 9, code := code, exceptionTable := #[], attributes := #[] }
def k1m3 : Method := { name := "law", desc := "(II)Z", sig := { parameters := [.int, .int], returnType := some .boolean }, accessFlags := 9, code := some k1c3 }
/-- com/example/handler/handler/HttpSyntaxHexValuePinLaw -/
def k1 : Class := { plain "com/example/handler/handler/HttpSyntaxHexValuePinLaw" (some 0) with
  accessFlags := 49
  interfaces := #[]
  cf := some (fileOf pool1 18 #[] #[{ accessFlags := 2, nameIndex := 5, descriptorIndex := 6, attributes := #[] }, { accessFlags := 10, nameIndex := 21, descriptorIndex := 14, attributes := #[] }, { accessFlags := 10, nameIndex := 24, descriptorIndex := 14, attributes := #[] }, { accessFlags := 9, nameIndex := 33, descriptorIndex := 34, attributes := #[] }] 49 2 #[] #[])
  fields := #[]
  methods := #[k1m0, k1m1, k1m2, k1m3]
  instanceTypes := #[]
  staticTypes := #[]
  resolved := Array.replicate 38 none
  statics := none }

def pool2 : Array CpInfo := pool [(1, .class_ 2), (0, u "java/io/Serializable"), (0, .class_ 4), (0, u "java/lang/Object")] 2

/-- java/io/Serializable -/
def k2 : Class := { plain "java/io/Serializable" (some 0) with
  accessFlags := 1537
  interfaces := #[]
  cf := some (fileOf pool2 1 #[] #[] 1537 3 #[] #[])
  fields := #[]
  methods := #[]
  instanceTypes := #[]
  staticTypes := #[]
  resolved := Array.replicate 7 none
  statics := none }

def pool3 : Array CpInfo := pool [(1, .class_ 2), (0, u "java/lang/Comparable"), (0, .class_ 4), (0, u "java/lang/Object")] 7

/-- java/lang/Comparable -/
def k3 : Class := { plain "java/lang/Comparable" (some 0) with
  accessFlags := 1537
  interfaces := #[]
  cf := some (fileOf pool3 1 #[] #[] 1537 3 #[] #[])
  fields := #[]
  methods := #[]
  instanceTypes := #[]
  staticTypes := #[]
  resolved := Array.replicate 12 none
  statics := none }

def pool4 : Array CpInfo := pool [(2, .class_ 4), (1, u "java/lang/CharSequence"), (42, .class_ 48), (0, u "java/lang/CharSequence$1CodePointIterator"), (10, .class_ 60), (0, u "java/lang/CharSequence$1CharIterator"), (5, .class_ 67), (0, u "java/lang/Object")] 63

/-- java/lang/CharSequence -/
def k4 : Class := { plain "java/lang/CharSequence" (some 0) with
  accessFlags := 1537
  interfaces := #[]
  cf := some (fileOf pool4 2 #[.nestMembers #[47, 59]] #[] 1537 66 #[] #[])
  fields := #[]
  methods := #[]
  instanceTypes := #[]
  staticTypes := #[]
  resolved := Array.replicate 131 none
  statics := none }

def pool5 : Array CpInfo := pool [(1, .class_ 2), (0, u "java/lang/constant/Constable"), (0, .class_ 4), (0, u "java/lang/Object")] 6

/-- java/lang/constant/Constable -/
def k5 : Class := { plain "java/lang/constant/Constable" (some 0) with
  accessFlags := 1537
  interfaces := #[]
  cf := some (fileOf pool5 1 #[] #[] 1537 3 #[] #[])
  fields := #[]
  methods := #[]
  instanceTypes := #[]
  staticTypes := #[]
  resolved := Array.replicate 11 none
  statics := none }

def pool6 : Array CpInfo := pool [(1, .class_ 2), (0, u "java/lang/constant/ConstantDesc"), (0, .class_ 4), (0, u "java/lang/Object")] 32

/-- java/lang/constant/ConstantDesc -/
def k6 : Class := { plain "java/lang/constant/ConstantDesc" (some 0) with
  accessFlags := 1537
  interfaces := #[]
  cf := some (fileOf pool6 1 #[] #[] 1537 3 #[] #[])
  fields := #[]
  methods := #[]
  instanceTypes := #[]
  staticTypes := #[]
  resolved := Array.replicate 37 none
  statics := none }

def pool7 : Array CpInfo := pool [(2, .class_ 4), (1, u "java/lang/Object"), (0, u "<init>"), (0, u "()V"), (2, .fieldref 10 11), (0, .class_ 12), (0, .nameAndType 13 14), (0, u "java/lang/String"), (0, u "value"), (0, u "[B"), (0, .fieldref 10 16), (0, .nameAndType 17 18), (0, u "coder"), (0, u "B"), (2, u "hash"), (0, u "I"), (2, u "hashIsZero"), (0, u "Z"), (11, .fieldref 10 39), (0, .nameAndType 40 26), (0, u "COMPACT_STRINGS"), (66, .class_ 109), (1, u "java/lang/StringLatin1"), (32, u "()Z"), (220, u "([BI)C"), (27, u "(II)V"), (35, u "(I)C"), (64, .methodref 10 493), (0, .nameAndType 494 142), (0, u "isLatin1"), (0, .methodref 107 496), (0, .nameAndType 497 363), (0, u "charAt"), (3, u "checkIndex"), (73, .class_ 576), (0, u "java/lang/CharSequence"), (22, u "CASE_INSENSITIVE_ORDER"), (0, u "Ljava/util/Comparator;"), (452, .fieldref 1054 1055), (0, .class_ 1056), (0, .nameAndType 1057 1058), (0, u "jdk/internal/util/Preconditions"), (0, u "SIOOBE_FORMATTER"), (0, u "Ljava/util/function/BiFunction;"), (0, .methodref 1054 1060), (0, .nameAndType 501 1061), (0, u "(IILjava/util/function/BiFunction;)I"), (39, u "serialPersistentFields"), (0, u "[Ljava/io/ObjectStreamField;"), (0, .class_ 1104), (0, u "java/lang/String$CaseInsensitiveComparator"), (1, .class_ 1107), (0, u "java/io/Serializable"), (0, .class_ 1109), (0, u "java/lang/Comparable"), (0, .class_ 1111), (0, u "java/lang/constant/Constable"), (0, .class_ 1113), (0, u "java/lang/constant/ConstantDesc"), (2, u "serialVersionUID"), (0, u "J"), (3, u "REPL"), (0, u "C"), (2, u "LATIN1"), (1, u "UTF16")] 323

def k7m0 : Method := { name := "<init>", desc := "()V", sig := { parameters := [], returnType := none }, accessFlags := 1, code := none }
def k7c1 : Code := { maxStack := 2, maxLocals := 2, code := jdk_42_method_56_code, exceptionTable := #[], attributes := #[] }
def k7m1 : Method := { name := "charAt", desc := "(I)C", sig := { parameters := [.int], returnType := some .char }, accessFlags := 1, code := some k7c1 }
def k7c2 : Code := { maxStack := 1, maxLocals := 1, code := jdk_42_method_154_code, exceptionTable := #[], attributes := #[] }
def k7m2 : Method := { name := "isLatin1", desc := "()Z", sig := { parameters := [], returnType := some .boolean }, accessFlags := 0, code := some k7c2 }
def k7c3 : Code := { maxStack := 3, maxLocals := 2, code := jdk_42_method_155_code, exceptionTable := #[], attributes := #[] }
def k7m3 : Method := { name := "checkIndex", desc := "(II)V", sig := { parameters := [.int, .int], returnType := none }, accessFlags := 8, code := some k7c3 }
/-- java/lang/String -/
def k7 : Class := { plain "java/lang/String" (some 0) with
  accessFlags := 49
  interfaces := #[2, 3, 4, 5, 6]
  cf := some (fileOf pool7 10 #[.nestMembers #[1103]] #[{ accessFlags := 1, nameIndex := 5, descriptorIndex := 6, attributes := #[] }, { accessFlags := 1, nameIndex := 497, descriptorIndex := 427, attributes := #[] }, { accessFlags := 0, nameIndex := 494, descriptorIndex := 142, attributes := #[] }, { accessFlags := 8, nameIndex := 501, descriptorIndex := 391, attributes := #[] }] 49 2 #[1106, 1108, 575, 1110, 1112] #[{ accessFlags := 18, nameIndex := 13, descriptorIndex := 14, attributes := #[] }, { accessFlags := 18, nameIndex := 17, descriptorIndex := 18, attributes := #[] }, { accessFlags := 2, nameIndex := 21, descriptorIndex := 22, attributes := #[] }, { accessFlags := 2, nameIndex := 25, descriptorIndex := 26, attributes := #[] }, { accessFlags := 26, nameIndex := 1116, descriptorIndex := 1117, attributes := #[] }, { accessFlags := 24, nameIndex := 40, descriptorIndex := 26, attributes := #[] }, { accessFlags := 26, nameIndex := 1101, descriptorIndex := 1102, attributes := #[] }, { accessFlags := 26, nameIndex := 1121, descriptorIndex := 1122, attributes := #[] }, { accessFlags := 25, nameIndex := 599, descriptorIndex := 600, attributes := #[] }, { accessFlags := 24, nameIndex := 1125, descriptorIndex := 18, attributes := #[] }, { accessFlags := 24, nameIndex := 1127, descriptorIndex := 18, attributes := #[] }])
  fields := #[{ name := "value", type := (.array .byte), accessFlags := 18, slot := 0, constantValue := 0 }, { name := "coder", type := .byte, accessFlags := 18, slot := 1, constantValue := 0 }, { name := "hash", type := .int, accessFlags := 2, slot := 2, constantValue := 0 }, { name := "hashIsZero", type := .boolean, accessFlags := 2, slot := 3, constantValue := 0 }, { name := "serialVersionUID", type := .long, accessFlags := 26, slot := 0, constantValue := 0 }, { name := "COMPACT_STRINGS", type := .boolean, accessFlags := 24, slot := 1, constantValue := 0 }, { name := "serialPersistentFields", type := (.array (.object "java/io/ObjectStreamField")), accessFlags := 26, slot := 2, constantValue := 0 }, { name := "REPL", type := .char, accessFlags := 26, slot := 3, constantValue := 0 }, { name := "CASE_INSENSITIVE_ORDER", type := (.object "java/util/Comparator"), accessFlags := 25, slot := 4, constantValue := 0 }, { name := "LATIN1", type := .byte, accessFlags := 24, slot := 5, constantValue := 0 }, { name := "UTF16", type := .byte, accessFlags := 24, slot := 6, constantValue := 0 }]
  methods := #[k7m0, k7m1, k7m2, k7m3]
  instanceTypes := #[(.array .byte), .byte, .int, .boolean]
  staticTypes := #[.long, .boolean, (.array (.object "java/io/ObjectStreamField")), .char, (.object "java/util/Comparator"), .byte, .byte]
  resolved := Array.replicate 1451 none
  statics := some 0 }

def pool8 : Array CpInfo := pool [(1, .class_ 2), (0, u "java/lang/String"), (1, .class_ 6), (1, u "java/lang/Object"), (0, u "<init>"), (0, u "()V"), (0, .methodref 1 10), (0, .nameAndType 11 12), (0, u "checkIndex"), (0, u "(II)V"), (1, .class_ 16), (1, u "java/lang/StringLatin1"), (36, u "([BI)C"), (67, u "$assertionsDisabled"), (0, u "Z"), (98, .class_ 223), (1, u "java/lang/StringLatin1$LinesSpliterator"), (28, u "charAt"), (137, .class_ 391), (0, u "java/lang/StringLatin1$CharsSpliterator")] 3

def k8m0 : Method := { name := "<init>", desc := "()V", sig := { parameters := [], returnType := none }, accessFlags := 0, code := none }
def k8c1 : Code := { maxStack := 2, maxLocals := 2, code := jdk_43_method_2_code, exceptionTable := #[], attributes := #[] }
def k8m1 : Method := { name := "charAt", desc := "([BI)C", sig := { parameters := [(.array .byte), .int], returnType := some .char }, accessFlags := 9, code := some k8c1 }
/-- java/lang/StringLatin1 -/
def k8 : Class := { plain "java/lang/StringLatin1" (some 0) with
  accessFlags := 48
  interfaces := #[]
  cf := some (fileOf pool8 14 #[.nestMembers #[390, 221]] #[{ accessFlags := 0, nameIndex := 7, descriptorIndex := 8, attributes := #[] }, { accessFlags := 9, nameIndex := 252, descriptorIndex := 53, attributes := #[] }] 48 4 #[] #[{ accessFlags := 4120, nameIndex := 121, descriptorIndex := 122, attributes := #[] }])
  fields := #[{ name := "$assertionsDisabled", type := .boolean, accessFlags := 4120, slot := 0, constantValue := 0 }]
  methods := #[k8m0, k8m1]
  instanceTypes := #[]
  staticTypes := #[.boolean]
  resolved := Array.replicate 395 none
  statics := none }

def pool9 : Array CpInfo := pool [(2, .class_ 4), (1, u "java/lang/Object"), (0, u "<init>"), (0, u "()V"), (17, .class_ 26), (1, u "jdk/internal/util/Preconditions"), (6, u "checkIndex"), (21, .class_ 56), (0, u "jdk/internal/util/Preconditions$4"), (57, .class_ 115), (0, u "jdk/internal/util/Preconditions$1"), (7, u "SIOOBE_FORMATTER"), (0, u "Ljava/util/function/BiFunction;"), (0, .class_ 126), (0, u "jdk/internal/util/Preconditions$2"), (3, u "AIOOBE_FORMATTER"), (0, .class_ 132), (0, u "jdk/internal/util/Preconditions$3"), (3, u "IOOBE_FORMATTER"), (41, u "(IILjava/util/function/BiFunction;)I")] 15

def k9m0 : Method := { name := "<init>", desc := "()V", sig := { parameters := [], returnType := none }, accessFlags := 1, code := none }
def k9c1 : Code := { maxStack := 3, maxLocals := 3, code := jdk_41_method_11_code, exceptionTable := #[], attributes := #[] }
def k9m1 : Method := { name := "checkIndex", desc := "(IILjava/util/function/BiFunction;)I", sig := { parameters := [.int, .int, (.object "java/util/function/BiFunction")], returnType := some .int }, accessFlags := 9, code := some k9c1 }
/-- jdk/internal/util/Preconditions -/
def k9 : Class := { plain "jdk/internal/util/Preconditions" (some 0) with
  accessFlags := 33
  interfaces := #[]
  cf := some (fileOf pool9 24 #[.nestMembers #[55, 131, 125, 114]] #[{ accessFlags := 1, nameIndex := 5, descriptorIndex := 6, attributes := #[] }, { accessFlags := 9, nameIndex := 33, descriptorIndex := 178, attributes := #[] }] 33 2 #[] #[{ accessFlags := 25, nameIndex := 123, descriptorIndex := 124, attributes := #[] }, { accessFlags := 25, nameIndex := 130, descriptorIndex := 124, attributes := #[] }, { accessFlags := 25, nameIndex := 136, descriptorIndex := 124, attributes := #[] }])
  fields := #[{ name := "SIOOBE_FORMATTER", type := (.object "java/util/function/BiFunction"), accessFlags := 25, slot := 0, constantValue := 0 }, { name := "AIOOBE_FORMATTER", type := (.object "java/util/function/BiFunction"), accessFlags := 25, slot := 1, constantValue := 0 }, { name := "IOOBE_FORMATTER", type := (.object "java/util/function/BiFunction"), accessFlags := 25, slot := 2, constantValue := 0 }]
  methods := #[k9m0, k9m1]
  instanceTypes := #[]
  staticTypes := #[(.object "java/util/function/BiFunction"), (.object "java/util/function/BiFunction"), (.object "java/util/function/BiFunction")]
  resolved := Array.replicate 194 none
  statics := some 1 }

def pool10 : Array CpInfo := pool [(2, .class_ 4), (1, u "java/lang/Object"), (0, u "<init>"), (0, u "()V"), (7, .class_ 16), (1, u "com/example/handler/handler/HttpSyntax"), (64, u "TOKEN_CHARS"), (0, u "[Z"), (13, u "TOKEN_SYMBOLS"), (0, u "Ljava/lang/String;"), (10, u "hexValue"), (0, u "(C)I")] 4

def k10m0 : Method := { name := "<init>", desc := "()V", sig := { parameters := [], returnType := none }, accessFlags := 2, code := none }
def k10c1 : Code := { maxStack := 2, maxLocals := 2, code := prog_39_method_8_code, exceptionTable := #[], attributes := #[] }
def k10m1 : Method := { name := "hexValue", desc := "(C)I", sig := { parameters := [.char], returnType := some .int }, accessFlags := 8, code := some k10c1 }
/-- com/example/handler/handler/HttpSyntax -/
def k10 : Class := { plain "com/example/handler/handler/HttpSyntax" (some 0) with
  accessFlags := 48
  interfaces := #[]
  cf := some (fileOf pool10 14 #[] #[{ accessFlags := 2, nameIndex := 5, descriptorIndex := 6, attributes := #[] }, { accessFlags := 8, nameIndex := 108, descriptorIndex := 109, attributes := #[] }] 48 2 #[] #[{ accessFlags := 26, nameIndex := 96, descriptorIndex := 97, attributes := #[] }, { accessFlags := 26, nameIndex := 81, descriptorIndex := 82, attributes := #[] }])
  fields := #[{ name := "TOKEN_SYMBOLS", type := (.object "java/lang/String"), accessFlags := 26, slot := 0, constantValue := 0 }, { name := "TOKEN_CHARS", type := (.array .boolean), accessFlags := 26, slot := 1, constantValue := 0 }]
  methods := #[k10m0, k10m1]
  instanceTypes := #[]
  staticTypes := #[(.object "java/lang/String"), (.array .boolean)]
  resolved := Array.replicate 114 none
  statics := none }

def pool11 : Array CpInfo := pool [(9, u "<init>"), (6, .class_ 18), (1, u "java/lang/Object"), (0, u "()V"), (1, .class_ 23), (1, u "jdk/internal/util/ArraysSupport"), (0, u "LOG2_ARRAY_LONG_INDEX_SCALE"), (0, u "I"), (2, u "U"), (0, u "Ljdk/internal/misc/Unsafe;"), (8, u "BIG_ENDIAN"), (0, u "Z"), (8, u "LOG2_BYTE_BIT_SIZE"), (4, u "LOG2_ARRAY_INT_INDEX_SCALE"), (54, u "JLA"), (0, u "Ljdk/internal/access/JavaLangAccess;"), (11, u "LOG2_ARRAY_BOOLEAN_INDEX_SCALE"), (9, u "LOG2_ARRAY_BYTE_INDEX_SCALE"), (5, u "LOG2_ARRAY_CHAR_INDEX_SCALE"), (5, u "LOG2_ARRAY_SHORT_INDEX_SCALE"), (18, u "LOG2_ARRAY_FLOAT_INDEX_SCALE"), (24, u "LOG2_ARRAY_DOUBLE_INDEX_SCALE"), (89, u "T_BOOLEAN"), (2, u "T_CHAR"), (1, u "T_FLOAT"), (1, u "T_DOUBLE"), (1, u "T_BYTE"), (1, u "T_SHORT"), (1, u "T_INT"), (1, u "T_LONG"), (1, u "SOFT_MAX_ARRAY_LENGTH")] 83

def k11m0 : Method := { name := "<init>", desc := "()V", sig := { parameters := [], returnType := none }, accessFlags := 2, code := none }
/-- jdk/internal/util/ArraysSupport -/
def k11 : Class := { plain "jdk/internal/util/ArraysSupport" (some 0) with
  accessFlags := 33
  interfaces := #[]
  cf := some (fileOf pool11 21 #[] #[{ accessFlags := 2, nameIndex := 9, descriptorIndex := 19, attributes := #[] }] 33 16 #[] #[{ accessFlags := 24, nameIndex := 28, descriptorIndex := 29, attributes := #[] }, { accessFlags := 26, nameIndex := 38, descriptorIndex := 39, attributes := #[] }, { accessFlags := 25, nameIndex := 121, descriptorIndex := 25, attributes := #[] }, { accessFlags := 25, nameIndex := 131, descriptorIndex := 25, attributes := #[] }, { accessFlags := 25, nameIndex := 137, descriptorIndex := 25, attributes := #[] }, { accessFlags := 25, nameIndex := 143, descriptorIndex := 25, attributes := #[] }, { accessFlags := 25, nameIndex := 53, descriptorIndex := 25, attributes := #[] }, { accessFlags := 25, nameIndex := 24, descriptorIndex := 25, attributes := #[] }, { accessFlags := 25, nameIndex := 162, descriptorIndex := 25, attributes := #[] }, { accessFlags := 25, nameIndex := 187, descriptorIndex := 25, attributes := #[] }, { accessFlags := 26, nameIndex := 48, descriptorIndex := 25, attributes := #[] }, { accessFlags := 25, nameIndex := 277, descriptorIndex := 25, attributes := #[] }, { accessFlags := 25, nameIndex := 280, descriptorIndex := 25, attributes := #[] }, { accessFlags := 25, nameIndex := 282, descriptorIndex := 25, attributes := #[] }, { accessFlags := 25, nameIndex := 284, descriptorIndex := 25, attributes := #[] }, { accessFlags := 25, nameIndex := 286, descriptorIndex := 25, attributes := #[] }, { accessFlags := 25, nameIndex := 288, descriptorIndex := 25, attributes := #[] }, { accessFlags := 25, nameIndex := 290, descriptorIndex := 25, attributes := #[] }, { accessFlags := 25, nameIndex := 292, descriptorIndex := 25, attributes := #[] }, { accessFlags := 26, nameIndex := 108, descriptorIndex := 109, attributes := #[] }, { accessFlags := 25, nameIndex := 294, descriptorIndex := 25, attributes := #[] }])
  fields := #[{ name := "U", type := (.object "jdk/internal/misc/Unsafe"), accessFlags := 24, slot := 0, constantValue := 0 }, { name := "BIG_ENDIAN", type := .boolean, accessFlags := 26, slot := 1, constantValue := 0 }, { name := "LOG2_ARRAY_BOOLEAN_INDEX_SCALE", type := .int, accessFlags := 25, slot := 2, constantValue := 0 }, { name := "LOG2_ARRAY_BYTE_INDEX_SCALE", type := .int, accessFlags := 25, slot := 3, constantValue := 0 }, { name := "LOG2_ARRAY_CHAR_INDEX_SCALE", type := .int, accessFlags := 25, slot := 4, constantValue := 0 }, { name := "LOG2_ARRAY_SHORT_INDEX_SCALE", type := .int, accessFlags := 25, slot := 5, constantValue := 0 }, { name := "LOG2_ARRAY_INT_INDEX_SCALE", type := .int, accessFlags := 25, slot := 6, constantValue := 0 }, { name := "LOG2_ARRAY_LONG_INDEX_SCALE", type := .int, accessFlags := 25, slot := 7, constantValue := 0 }, { name := "LOG2_ARRAY_FLOAT_INDEX_SCALE", type := .int, accessFlags := 25, slot := 8, constantValue := 0 }, { name := "LOG2_ARRAY_DOUBLE_INDEX_SCALE", type := .int, accessFlags := 25, slot := 9, constantValue := 0 }, { name := "LOG2_BYTE_BIT_SIZE", type := .int, accessFlags := 26, slot := 10, constantValue := 0 }, { name := "T_BOOLEAN", type := .int, accessFlags := 25, slot := 11, constantValue := 0 }, { name := "T_CHAR", type := .int, accessFlags := 25, slot := 12, constantValue := 0 }, { name := "T_FLOAT", type := .int, accessFlags := 25, slot := 13, constantValue := 0 }, { name := "T_DOUBLE", type := .int, accessFlags := 25, slot := 14, constantValue := 0 }, { name := "T_BYTE", type := .int, accessFlags := 25, slot := 15, constantValue := 0 }, { name := "T_SHORT", type := .int, accessFlags := 25, slot := 16, constantValue := 0 }, { name := "T_INT", type := .int, accessFlags := 25, slot := 17, constantValue := 0 }, { name := "T_LONG", type := .int, accessFlags := 25, slot := 18, constantValue := 0 }, { name := "JLA", type := (.object "jdk/internal/access/JavaLangAccess"), accessFlags := 26, slot := 19, constantValue := 0 }, { name := "SOFT_MAX_ARRAY_LENGTH", type := .int, accessFlags := 25, slot := 20, constantValue := 0 }]
  methods := #[k11m0]
  instanceTypes := #[]
  staticTypes := #[(.object "jdk/internal/misc/Unsafe"), .boolean, .int, .int, .int, .int, .int, .int, .int, .int, .int, .int, .int, .int, .int, .int, .int, .int, .int, (.object "jdk/internal/access/JavaLangAccess"), .int]
  resolved := Array.replicate 378 none
  statics := none }

def pool12 : Array CpInfo := pool [(1, u "java/lang/Cloneable"), (0, .class_ 1), (0, u "java/lang/Object"), (0, .class_ 3)] 3

/-- java/lang/Cloneable -/
def k12 : Class := { plain "java/lang/Cloneable" (some 0) with
  accessFlags := 1537
  interfaces := #[]
  cf := some (fileOf pool12 2 #[] #[] 1537 4 #[] #[])
  fields := #[]
  methods := #[]
  instanceTypes := #[]
  staticTypes := #[]
  resolved := Array.replicate 8 none
  statics := none }

/-- the primitive byte -/
def k13 : Class := { plain "byte" none with kind := .primitive 'B', accessFlags := 0x411 }
/-- [B -/
def k14 : Class := { plain "[B" (some 0) with kind := .array 13 .byte, interfaces := #[12, 2], accessFlags := 1041 }

/-- the primitive int -/
def k15 : Class := { plain "int" none with kind := .primitive 'I', accessFlags := 0x411 }
/-- [I -/
def k16 : Class := { plain "[I" (some 0) with kind := .array 15 .int, interfaces := #[12, 2], accessFlags := 1041 }

def heap : Heap := #[{ cls := 7, slots := #[.long 0, .int 1, .null, .int 0, .null, .int 0, .int 0], vm := .statics 7 },
  { cls := 9, slots := #[.null, .null, .null], vm := .statics 9 }]
def classes : Array Class := #[k0, k1, k2, k3, k4, k5, k6, k7, k8, k9, k10, k11, k12, k13, k14, k15, k16]
def interned : List (Array UInt16 × Addr) := []
def slotsUsed : Nat := 10
def theMethod : MethodId := ⟨1, 3⟩
def args0 : Array Value := #[.int 5, .int 7]
def aboutOver (below : List Frame) : State where
  vm := { classes := classes, interned := interned.toArray }
  heap := heap
  slotsUsed := slotsUsed
  threads := #[{ frames := .invoking theMethod args0 :: below }]
def below0 : List Frame := [.native { method := ⟨0, 0⟩, args := #[] }]
def about1 : State := aboutOver below0
def p0 : Program := .bare "" "" ""
def e0 : Env := launch0.env 0 0 0
theorem w_frames : about1.frames = Frame.invoking theMethod args0 :: below0 := rfl
set_option maxRecDepth 65536 in
theorem w_args : argsFit about1.vm theMethod args0 = true := by decide +kernel
set_option maxRecDepth 65536 in
theorem w_heap : heapFits about1 = true := by decide +kernel
set_option maxRecDepth 65536 in
theorem w_runnable : about1.curStatus? = some .runnable := by decide +kernel
set_option maxRecDepth 65536 in
theorem w_alone : about1.alone = true := by decide +kernel
set_option maxRecDepth 65536 in
theorem w_named : about1.methodNamed? x = some theMethod := by decide +kernel
set_option maxRecDepth 65536 in
theorem w_hears : about1.hears theMethod below0 = true := by decide +kernel
set_option maxRecDepth 65536 in
theorem w_ripe : about1.ripe theMethod args0 below0 = true := by decide +kernel
theorem w_running : about1.status = .running := rfl
set_option maxRecDepth 65536 in
theorem w_room : about1.hasRoom e0.platform room_1 = true :=
  launch0.hasRoom_least _ room_1 (by decide +kernel) (by decide +kernel) (by decide +kernel) (by decide +kernel) (by decide +kernel) (by decide +kernel)
theorem allAtoms_all (ts : List Jvm.Cond) (a : Array Jvm.Value) (st : Jvm.State) : (allAtoms ts).before a st = ts.all (fun c => c.before a st) := by
  induction ts with
  | nil => rfl
  | cons c t ih =>
    show (Jvm.Cond.and c (allAtoms t)).before a st = _
    rw [Jvm.Cond.before_and, ih, List.all_cons]
def words1 : List Jvm.Cond := Jvm.Cond.code x code maxLocals ret :: tables_1
/-- a 'code' word, met by the world's own term for the bytes: nothing is compared byte by byte -/
theorem code_word {y : MethodName} {bytes : ByteArray} {mx : Nat} {rt : Option FieldType} {a : Array Value} {s : State} {m : MethodId} {meth : Method} {c : Code} (h1 : s.methodNamed? y = some m) (h2 : s.vm.method? m = some meth) (h3 : meth.code = some c) (h4 : c.code = bytes)
    (h5 : (c.maxLocals == mx && c.exceptionTable.isEmpty && decide (c.maxStack ≤ mostOperands) && decide (meth.sig.returnType = rt) && !meth.locks && decide (parseMethodDescriptor y.desc = some meth.sig)) = true) : (Jvm.Cond.code y bytes mx rt).before a s = true := by
  simp only [Bool.and_eq_true, beq_iff_eq, Bool.not_eq_true', decide_eq_true_eq] at h5
  obtain ⟨⟨⟨⟨⟨g1, g2⟩, g3⟩, g4⟩, g5⟩, g6⟩ := h5
  simp [Cond.before, Cond.holds, Cond.value, h1, h2, h3, h4, g1, g2, g3, g4, g5, g6]
def isCode : Jvm.Cond → Bool
  | .code _ _ _ _ => true
  | _ => false
theorem all_split {L : List Jvm.Cond} {P : Jvm.Cond → Bool} (h1 : L.all (fun c => isCode c || P c) = true) (h2 : ∀ c ∈ L.filter isCode, P c = true) : L.all P = true := by
  refine List.all_eq_true.mpr fun c hc => ?_
  have h := List.all_eq_true.mp h1 c hc
  rcases Bool.eq_false_or_eq_true (isCode c) with hi | hi
  · exact h2 c (List.mem_filter.mpr ⟨hc, hi⟩)
  · simpa [hi] using h
set_option maxRecDepth 65536 in
theorem w_c0 : (Jvm.Cond.code x code maxLocals ret).before args0 about1 = true := code_word (m := ⟨1, 3⟩) (meth := k1m3) (c := k1c3) (by decide +kernel) rfl rfl rfl (by decide +kernel)
set_option maxRecDepth 65536 in
theorem w_c1 : (Jvm.Cond.code ({ cls := "com/example/handler/handler/HttpSyntaxHexValuePinLaw", name := "lowerDigit", desc := "(I)C" } : Jvm.MethodName) method_2_code (1 : Nat) (Option.some Jvm.ClassFile.FieldType.char)).before args0 about1 = true := code_word (m := ⟨1, 1⟩) (meth := k1m1) (c := k1c1) (by decide +kernel) rfl rfl rfl (by decide +kernel)
set_option maxRecDepth 65536 in
theorem w_c2 : (Jvm.Cond.code ({ cls := "java/lang/String", name := "charAt", desc := "(I)C" } : Jvm.MethodName) jdk_42_method_56_code (2 : Nat) (Option.some Jvm.ClassFile.FieldType.char)).before args0 about1 = true := code_word (m := ⟨7, 1⟩) (meth := k7m1) (c := k7c1) (by decide +kernel) rfl rfl rfl (by decide +kernel)
set_option maxRecDepth 65536 in
theorem w_c3 : (Jvm.Cond.code ({ cls := "java/lang/String", name := "isLatin1", desc := "()Z" } : Jvm.MethodName) jdk_42_method_154_code (1 : Nat) (Option.some Jvm.ClassFile.FieldType.boolean)).before args0 about1 = true := code_word (m := ⟨7, 2⟩) (meth := k7m2) (c := k7c2) (by decide +kernel) rfl rfl rfl (by decide +kernel)
set_option maxRecDepth 65536 in
theorem w_c4 : (Jvm.Cond.code ({ cls := "java/lang/StringLatin1", name := "charAt", desc := "([BI)C" } : Jvm.MethodName) jdk_43_method_2_code (2 : Nat) (Option.some Jvm.ClassFile.FieldType.char)).before args0 about1 = true := code_word (m := ⟨8, 1⟩) (meth := k8m1) (c := k8c1) (by decide +kernel) rfl rfl rfl (by decide +kernel)
set_option maxRecDepth 65536 in
theorem w_c5 : (Jvm.Cond.code ({ cls := "java/lang/String", name := "checkIndex", desc := "(II)V" } : Jvm.MethodName) jdk_42_method_155_code (2 : Nat) (Option.none : Option Jvm.ClassFile.FieldType)).before args0 about1 = true := code_word (m := ⟨7, 3⟩) (meth := k7m3) (c := k7c3) (by decide +kernel) rfl rfl rfl (by decide +kernel)
set_option maxRecDepth 65536 in
theorem w_c6 : (Jvm.Cond.code ({ cls := "jdk/internal/util/Preconditions", name := "checkIndex", desc := "(IILjava/util/function/BiFunction;)I" } : Jvm.MethodName) jdk_41_method_11_code (3 : Nat) (Option.some Jvm.ClassFile.FieldType.int)).before args0 about1 = true := code_word (m := ⟨9, 1⟩) (meth := k9m1) (c := k9c1) (by decide +kernel) rfl rfl rfl (by decide +kernel)
set_option maxRecDepth 65536 in
theorem w_c7 : (Jvm.Cond.code ({ cls := "com/example/handler/handler/HttpSyntaxHexValuePinLaw", name := "upperDigit", desc := "(I)C" } : Jvm.MethodName) method_3_code (1 : Nat) (Option.some Jvm.ClassFile.FieldType.char)).before args0 about1 = true := code_word (m := ⟨1, 2⟩) (meth := k1m2) (c := k1c2) (by decide +kernel) rfl rfl rfl (by decide +kernel)
set_option maxRecDepth 65536 in
theorem w_c8 : (Jvm.Cond.code ({ cls := "com/example/handler/handler/HttpSyntax", name := "hexValue", desc := "(C)I" } : Jvm.MethodName) prog_39_method_8_code (2 : Nat) (Option.some Jvm.ClassFile.FieldType.int)).before args0 about1 = true := code_word (m := ⟨10, 1⟩) (meth := k10m1) (c := k10c1) (by decide +kernel) rfl rfl rfl (by decide +kernel)
def codes1 : List Jvm.Cond := [Jvm.Cond.code x code maxLocals ret, Jvm.Cond.code ({ cls := "com/example/handler/handler/HttpSyntaxHexValuePinLaw", name := "lowerDigit", desc := "(I)C" } : Jvm.MethodName) method_2_code (1 : Nat) (Option.some Jvm.ClassFile.FieldType.char), Jvm.Cond.code ({ cls := "java/lang/String", name := "charAt", desc := "(I)C" } : Jvm.MethodName) jdk_42_method_56_code (2 : Nat) (Option.some Jvm.ClassFile.FieldType.char), Jvm.Cond.code ({ cls := "java/lang/String", name := "isLatin1", desc := "()Z" } : Jvm.MethodName) jdk_42_method_154_code (1 : Nat) (Option.some Jvm.ClassFile.FieldType.boolean), Jvm.Cond.code ({ cls := "java/lang/StringLatin1", name := "charAt", desc := "([BI)C" } : Jvm.MethodName) jdk_43_method_2_code (2 : Nat) (Option.some Jvm.ClassFile.FieldType.char), Jvm.Cond.code ({ cls := "java/lang/String", name := "checkIndex", desc := "(II)V" } : Jvm.MethodName) jdk_42_method_155_code (2 : Nat) (Option.none : Option Jvm.ClassFile.FieldType), Jvm.Cond.code ({ cls := "jdk/internal/util/Preconditions", name := "checkIndex", desc := "(IILjava/util/function/BiFunction;)I" } : Jvm.MethodName) jdk_41_method_11_code (3 : Nat) (Option.some Jvm.ClassFile.FieldType.int), Jvm.Cond.code ({ cls := "com/example/handler/handler/HttpSyntaxHexValuePinLaw", name := "upperDigit", desc := "(I)C" } : Jvm.MethodName) method_3_code (1 : Nat) (Option.some Jvm.ClassFile.FieldType.char), Jvm.Cond.code ({ cls := "com/example/handler/handler/HttpSyntax", name := "hexValue", desc := "(C)I" } : Jvm.MethodName) prog_39_method_8_code (2 : Nat) (Option.some Jvm.ClassFile.FieldType.int)]
set_option maxRecDepth 65536 in
theorem codes_eq : words1.filter isCode = codes1 := rfl
theorem w_codes : ∀ c ∈ words1.filter isCode, c.before args0 about1 = true := by
  rw [codes_eq]
  intro c hc
  simp only [codes1, List.mem_cons, List.not_mem_nil, or_false] at hc
  rcases hc with rfl | rfl | rfl | rfl | rfl | rfl | rfl | rfl | rfl
  · exact w_c0
  · exact w_c1
  · exact w_c2
  · exact w_c3
  · exact w_c4
  · exact w_c5
  · exact w_c6
  · exact w_c7
  · exact w_c8
set_option maxRecDepth 65536 in
theorem w_t1 : (words1.take 24).all (fun c => isCode c || c.before args0 about1) = true := by decide +kernel
set_option maxRecDepth 65536 in
theorem w_t2 : (words1.drop 24).all (fun c => isCode c || c.before args0 about1) = true := by decide +kernel
theorem w_tables : (allAtoms (Jvm.Cond.code x code maxLocals ret :: tables_1)).before args0 about1 = true := by
  rw [allAtoms_all]
  show words1.all (fun c => c.before args0 about1) = true
  refine all_split ?_ w_codes
  rw [← List.take_append_drop 24 words1, List.all_append, w_t1, w_t2]
  rfl
set_option maxRecDepth 65536 in
theorem w_rest : rest_1_c.before args0 about1 = true := by decide +kernel
set_option maxRecDepth 65536 in
theorem w_case : (Jvm.Cond.and given_1 narrow_1).before args0 about1 = true := by decide +kernel
set_option maxRecDepth 65536 in
theorem w_consts : constsHeld consts_1 about1 := Jvm.Lit.constsHeldB_iff.mp (by decide +kernel)
theorem w_applies : (headSpec (Jvm.Cond.code x code maxLocals ret :: tables_1) room_1).applies x e0.platform about1 = true :=
  (Spec.applies_iff w_frames).mpr ⟨w_running, w_runnable, w_alone, w_named, w_hears, w_ripe, w_room, w_tables⟩
theorem atStart : AtStart classFile x code maxLocals ret World_1 tables_1 room_1 Calls_1 rest_1 Pre_1 launch0 p0 e0 about1 theMethod args0 below0 :=
  ⟨lists_1, trivial, launch0.admits_env _ _ _, launch0.least_env, fairChoices_fair.cas, fairChoices_fair.clock, w_frames, w_args, w_heap, w_applies, ⟨w_consts, trivial⟩, w_rest, w_case⟩
end start1
theorem witness_1 : WitnessClaimed_1 := ⟨start1.p0, start1.e0, start1.about1, start1.theMethod, start1.args0, start1.below0, start1.atStart⟩
end Jvm.Pilot.@@N@@
