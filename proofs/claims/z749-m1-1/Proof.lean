import JvmDerived
import JvmDerived.Pilot.@@N@@Statement
import JvmDerived.Pilot.@@N@@Code
set_option linter.unusedVariables false
set_option linter.unusedSimpArgs false
namespace Jvm.Pilot.@@N@@
open Jvm Jvm.ClassFile Sem Op Lib Jvm.Free Jvm.Stand Jvm.LawKit Jvm.RoadKit Bundle Jvm.Pilot.@@N@@.Jvm.D
def own_Go (tb : Tables) (e : Env) (below : List Frame) (P : State → Outcome → Prop) (A : State) : Prop := ∃ s₂ o, Steps tb e below A s₂ ∧ P s₂ o
theorem own_in {tb : Tables} {e : Env} {below : List Frame} {P : State → Outcome → Prop} {A : State} (h : own_Go tb e below P A) : ∃ s₂ o, Steps tb e below A s₂ ∧ P s₂ o := h
theorem own_st {tb : Tables} {e : Env} {below : List Frame} {P : State → Outcome → Prop} {A B : State} (h : ∀ t, Steps tb e below B t → Steps tb e below A t) (k : own_Go tb e below P B) : own_Go tb e below P A := by
  obtain ⟨s₂, o, h1, h2⟩ := k
  exact ⟨s₂, o, h _ h1, h2⟩
theorem own_tr {tb : Tables} {e : Env} {below : List Frame} {P : State → Outcome → Prop} {A B : State} (h : Steps tb e below A B) (k : own_Go tb e below P B) : own_Go tb e below P A := by
  obtain ⟨s₂, o, h1, h2⟩ := k
  exact ⟨s₂, o, h.trans h1, h2⟩
theorem own_out {tb : Tables} {e : Env} {below : List Frame} {P : State → Outcome → Prop} {A B : State} {o : Outcome} (h : Steps tb e below A B) (k : P B o) : own_Go tb e below P A := ⟨B, o, h, k⟩
theorem own_join {ι : Type} {tb : Tables} {e : Env} {below : List Frame} {P : State → Outcome → Prop} {A : State} (B : ι → State) (K : ι → Prop) (hJ : ∀ b, K b → own_Go tb e below P (B b)) (h : (∀ b, K b → own_Go tb e below P (B b)) → own_Go tb e below P A) : own_Go tb e below P A := h hJ
theorem own_cast {tb : Tables} {e : Env} {below : List Frame} {P : State → Outcome → Prop} {A B : State} (q : A = B) (k : own_Go tb e below P B) : own_Go tb e below P A := q ▸ k
section Own
variable {p : Program} {l : Launch} {e : Env} {R : Room} {s : State} {m : MethodId} {args : Array Value} {below : List Frame} {meth : Method} {c : Code} {T : State} {locs : List Loc} {cells slots : Nat}
theorem own_retI (X : Stand p l e R s m args below meth c T locs cells slots) (hx : p.tables.exec = Jvm.exec) {pc : Nat} {Ls : Array Slot} {z : Int32} {rest : List Value} (hret : meth.sig.returnType = some .int) (hd : decode c.code pc = .ok (.ireturn, 1)) {fs : List Frame}
    (hl : ∀ (f : JFrame) (acts : List Action), f.method = m → f.locked = none → f.entered = [] → (doReturn e (T.setTop f) acts (some (.int z))).1 = T.setFrames fs) : Steps p.tables e below (T.setTop (mkF m pc Ls (.int z :: rest))) (T.setFrames fs) := by
  have hm' : T.vm.method? m = some meth := X.method'
  have hn : narrow .int (.int z) = .int z := rfl
  show Steps p.tables e below (T.setTop { method := m, pc := pc, locals := Ls, stack := _ :: rest, locked := none }) _
  jvm_step X.here [X.here.top, hx, hd, hm', hret, hn]
  first | (intro acts; rw [hl _ acts rfl rfl rfl]) | rw [hl _ _ rfl rfl rfl]
  exact Steps.refl _
end Own
def own_mn (u0 : Int64) (u1 : Int64) : Int64 := (if (0 : Int32) < (lcmpW u0 u1) then u1 else u0)
theorem d8_0 : decode jdk_29_method_70_code 0 = .ok (.lload_n 0, 1) := by decide +kernel
theorem d8_1 : decode jdk_29_method_70_code 1 = .ok (.lload_n 2, 1) := by decide +kernel
theorem d8_2 : decode jdk_29_method_70_code 2 = .ok (.lcmp, 1) := by decide +kernel
theorem d8_3 : decode jdk_29_method_70_code 3 = .ok (.ifCond .gt 7, 3) := by decide +kernel
theorem d8_6 : decode jdk_29_method_70_code 6 = .ok (.lload_n 0, 1) := by decide +kernel
theorem d8_7 : decode jdk_29_method_70_code 7 = .ok (.goto 4, 3) := by decide +kernel
theorem d8_10 : decode jdk_29_method_70_code 10 = .ok (.lload_n 2, 1) := by decide +kernel
theorem d8_11 : decode jdk_29_method_70_code 11 = .ok (.lreturn, 1) := by decide +kernel
theorem own_pd0 : parseMethodDescriptor "(JJ)J" = some ⟨[.long, .long], some .long⟩ := by decide +kernel
def Q8 (Z : State) (u0 : Int64) (u1 : Int64) (h0 : Heap) (n0 : Nat) (v : Option Value) (h : Heap) (L : List Loc) : Prop := v = some (.long (own_mn u0 u1)) ∧ Fr n0 L ∧ h = h0
theorem ef_8 (m : MethodId) (x0 : Int64) (x1 : Int64) : entryFrame m #[(.long x0), (.long x1)] 4 = mkF m 0 #[.val (.long x0), .second, .val (.long x1), .second] [] := by first | (simp [entryFrame, mkF, argsToLocals, Value.category]; done) | rfl
set_option maxRecDepth 65536 in
set_option maxHeartbeats 40000000 in
theorem rm8 (l : Launch) (Z : State) (a0 : Array Value) (hw : ∀ d ∈ tables_1, d.before a0 Z = true) (ws : List Jvm.Cond) (u0 : Int64) (u1 : Int64) (h0 : Heap) (n0 : Nat) (Z0 : n0 ≤ h0.size)  :
    MetFree l (⟨"java/lang/Math", "min", "(JJ)J"⟩ : MethodName) (head1 (Jvm.Cond.code (⟨"java/lang/Math", "min", "(JJ)J"⟩ : MethodName) jdk_29_method_70_code 4 (some .long) :: ws) ({ frames := 0, cells := 0, slots := 0, locals := 0 } : Room)) (fun a U => a = #[(.long u0), (.long u1)] ∧ Z.Warmed39 U.vm ∧ U.heap = h0) (fun _ _ _ _ _ => True) (fun _ U o U' => ∃ v L, o = .returned v ∧ Q8 Z u0 u1 h0 n0 v U'.heap L ∧ FrameEnd U o U' L ({ frames := 0, cells := 0, slots := 0, locals := 0 } : Room).cells ({ frames := 0, cells := 0, slots := 0, locals := 0 } : Room).slots) := by
  refine MetFree.of_bodySF (Jvm.Free.JP.mathPlain rfl (by decide)) hisR ?_
  intro p e s m args below meth c s₁ Bd hml0 hP hK
  obtain ⟨rfl, hZ, hh⟩ := hP
  have hx := Bd.exec
  have hby := Bd.bytes
  have hml : c.maxLocals = 4 := hml0
  have hown : s.vm.findClass "java/lang/Math" = some m.cls := findClass_of_methodNamed Bd.named
  have hnm := (name_of_methodNamed Bd.named Bd.method).1
  have X0 : Stand p l e ({ frames := 0, cells := 0, slots := 0, locals := 0 } : Room) s m #[(.long u0), (.long u1)] below meth c s₁ [] 0 0 := Stand.of_body Bd
  have e0 : s₁.heap = h0 := by rw [← hh, Bd.state]; rfl
  have N0 := Fr.nil n0
  refine own_in ?_
  refine own_st (fun _ k => castTop (ef_8 m u0 u1) k) ?_
  have K0 : Keep h0 h0 [] := Keep.refl h0 []
  show own_Go _ _ _ _ (s₁.setTop (mkF m 0 #[.val (.long u0), .second, .val (.long u1), .second] []))
  refine own_st (fun _ k => XS.lloadN X0.here hx rfl (hb hby d8_0) rfl k) ?_
  show own_Go _ _ _ _ (s₁.setTop (mkF m 1 #[.val (.long u0), .second, .val (.long u1), .second] [(.long u0)]))
  refine own_st (fun _ k => XS.lloadN X0.here hx rfl (hb hby d8_1) rfl k) ?_
  show own_Go _ _ _ _ (s₁.setTop (mkF m 2 #[.val (.long u0), .second, .val (.long u1), .second] [(.long u1), (.long u0)]))
  refine own_st (fun _ k => XS.lcmp X0.here hx rfl (hb hby d8_2) rfl k) ?_
  show own_Go _ _ _ _ (s₁.setTop (mkF m 3 #[.val (.long u0), .second, .val (.long u1), .second] [(.int (lcmpW u0 u1))]))
  by_cases hc1 : (0 : Int32) < (lcmpW u0 u1)
  · skip
    refine own_st (fun _ k => XS.ifYes X0.here hx rfl (pc0 := 3) (pc' := 10) rfl (hb hby d8_3) rfl ((if0 _ _).trans (tlt hc1).2.2.1) (by decide) (by decide) k) ?_
    show own_Go _ _ _ _ (s₁.setTop (mkF m 10 #[.val (.long u0), .second, .val (.long u1), .second] []))
    refine own_st (fun _ k => XS.lloadN X0.here hx rfl (hb hby d8_10) rfl k) ?_
    show own_Go _ _ _ _ (s₁.setTop (mkF m 11 #[.val (.long u0), .second, .val (.long u1), .second] [(.long u1)]))
    obtain ⟨fs, hr, hrun, hended, hW, hsame⟩ := X0.leave (v := some (.long u1)) (fun h => by rw [Bd.returns] at h; cases h)
    refine own_out (X0.lreturnOut hx Bd.returns (hb hby d8_11) hr) ⟨hrun, hended, _, _, rfl, ?_, ⟨_, rfl⟩, hW, hsame.mono (by decide) (by decide)⟩
    show Q8 Z u0 u1 h0 n0 _ s₁.heap _
    have hv : own_mn u0 u1 = u1 := by
      unfold own_mn
      rw [if_pos hc1]
    exact ⟨by rw [hv], N0, e0⟩
  · skip
    refine own_st (fun _ k => XS.ifNo X0.here hx rfl (hb hby d8_3) rfl ((if0 _ _).trans (flt hc1).2.2.1) k) ?_
    show own_Go _ _ _ _ (s₁.setTop (mkF m 6 #[.val (.long u0), .second, .val (.long u1), .second] []))
    refine own_st (fun _ k => XS.lloadN X0.here hx rfl (hb hby d8_6) rfl k) ?_
    show own_Go _ _ _ _ (s₁.setTop (mkF m 7 #[.val (.long u0), .second, .val (.long u1), .second] [(.long u0)]))
    refine own_st (fun _ k => XS.goto X0.here hx rfl (pc0 := 7) (pc' := 11) rfl (hb hby d8_7) (by decide) (by decide) k) ?_
    show own_Go _ _ _ _ (s₁.setTop (mkF m 11 #[.val (.long u0), .second, .val (.long u1), .second] [(.long u0)]))
    obtain ⟨fs, hr, hrun, hended, hW, hsame⟩ := X0.leave (v := some (.long u0)) (fun h => by rw [Bd.returns] at h; cases h)
    refine own_out (X0.lreturnOut hx Bd.returns (hb hby d8_11) hr) ⟨hrun, hended, _, _, rfl, ?_, ⟨_, rfl⟩, hW, hsame.mono (by decide) (by decide)⟩
    show Q8 Z u0 u1 h0 n0 _ s₁.heap _
    have hv : own_mn u0 u1 = u0 := by
      unfold own_mn
      rw [if_neg hc1]
    exact ⟨by rw [hv], N0, e0⟩
theorem d1_0 : decode prog_49_method_1_code 0 = .ok (.aload_n 0, 1) := by decide +kernel
theorem d1_1 : decode prog_49_method_1_code 1 = .ok (.invokespecial 3, 3) := by decide +kernel
theorem d1_4 : decode prog_49_method_1_code 4 = .ok (.aload_n 0, 1) := by decide +kernel
theorem d1_5 : decode prog_49_method_1_code 5 = .ok (.ldc2_w 9, 3) := by decide +kernel
theorem d1_8 : decode prog_49_method_1_code 8 = .ok (.putfield 11, 3) := by decide +kernel
theorem d1_11 : decode prog_49_method_1_code 11 = .ok (.aload_n 0, 1) := by decide +kernel
theorem d1_12 : decode prog_49_method_1_code 12 = .ok (.lload_n 1, 1) := by decide +kernel
theorem d1_13 : decode prog_49_method_1_code 13 = .ok (.ldc2_w 15, 3) := by decide +kernel
theorem d1_16 : decode prog_49_method_1_code 16 = .ok (.ladd, 1) := by decide +kernel
theorem d1_17 : decode prog_49_method_1_code 17 = .ok (.putfield 17, 3) := by decide +kernel
theorem d1_20 : decode prog_49_method_1_code 20 = .ok (.aload_n 0, 1) := by decide +kernel
theorem d1_21 : decode prog_49_method_1_code 21 = .ok (.lload_n 1, 1) := by decide +kernel
theorem d1_22 : decode prog_49_method_1_code 22 = .ok (.ldc2_w 9, 3) := by decide +kernel
theorem d1_25 : decode prog_49_method_1_code 25 = .ok (.ladd, 1) := by decide +kernel
theorem d1_26 : decode prog_49_method_1_code 26 = .ok (.putfield 20, 3) := by decide +kernel
theorem d1_29 : decode prog_49_method_1_code 29 = .ok (.return_, 1) := by decide +kernel
theorem own_pd1 : parseMethodDescriptor "(J)V" = some ⟨[.long], none⟩ := by decide +kernel
theorem own_pn0 : plainName "com/example/troskel/troskel/service/RetransmissionTimer" = true := by first | (simp [plainName, overriddenIn]; done) | decide +kernel
def Q1 (Z : State) (ob : Addr) (u1 : Int64) (o_interval : Value) (o_timeoutAt : Value) (o_next : Value) (o_proceeding : Value) (h0 : Heap) (n0 : Nat) (v : Option Value) (h : Heap) (L : List Loc) : Prop := v = none ∧ Fr n0 L ∧ Keep h0 h [ob] ∧ Exa Z h ob "com/example/troskel/troskel/service/RetransmissionTimer" ∧ Fld Z h ob "com/example/troskel/troskel/service/RetransmissionTimer" "interval" "J" (.long (500000000 : Int64)) ∧ Fld Z h ob "com/example/troskel/troskel/service/RetransmissionTimer" "timeoutAt" "J" (.long (u1 + (32000000000 : Int64))) ∧ Fld Z h ob "com/example/troskel/troskel/service/RetransmissionTimer" "next" "J" (.long (u1 + (500000000 : Int64))) ∧ Fld Z h ob "com/example/troskel/troskel/service/RetransmissionTimer" "proceeding" "Z" o_proceeding
theorem ef_1 (m : MethodId) (x0 : Addr) (x1 : Int64) : entryFrame m #[(.ref x0), (.long x1)] 3 = mkF m 0 #[.val (.ref x0), .val (.long x1), .second] [] := by first | (simp [entryFrame, mkF, argsToLocals, Value.category]; done) | rfl
set_option maxRecDepth 65536 in
set_option maxHeartbeats 40000000 in
theorem rm1 (l : Launch) (Z : State) (a0 : Array Value) (hw : ∀ d ∈ tables_1, d.before a0 Z = true) (ws : List Jvm.Cond) (ob : Addr) (u1 : Int64) (o_interval : Value) (o_timeoutAt : Value) (o_next : Value) (o_proceeding : Value) (h0 : Heap) (n0 : Nat) (Z0 : n0 ≤ h0.size) (E_ob : Exa Z h0 ob "com/example/troskel/troskel/service/RetransmissionTimer") (gnob : n0 ≤ ob) (F_interval : Fld Z h0 ob "com/example/troskel/troskel/service/RetransmissionTimer" "interval" "J" o_interval) (F_timeoutAt : Fld Z h0 ob "com/example/troskel/troskel/service/RetransmissionTimer" "timeoutAt" "J" o_timeoutAt) (F_next : Fld Z h0 ob "com/example/troskel/troskel/service/RetransmissionTimer" "next" "J" o_next) (F_proceeding : Fld Z h0 ob "com/example/troskel/troskel/service/RetransmissionTimer" "proceeding" "Z" o_proceeding)  :
    MetFree l (⟨"com/example/troskel/troskel/service/RetransmissionTimer", "<init>", "(J)V"⟩ : MethodName) (head1 (Jvm.Cond.code (⟨"com/example/troskel/troskel/service/RetransmissionTimer", "<init>", "(J)V"⟩ : MethodName) prog_49_method_1_code 3 none :: ws) ({ frames := 1, cells := 0, slots := 0, locals := 12 } : Room)) (fun a U => a = #[(.ref ob), (.long u1)] ∧ Z.Warmed39 U.vm ∧ U.heap = h0) (fun _ _ _ _ _ => True) (fun _ U o U' => ∃ v L, o = .returned v ∧ Q1 Z ob u1 o_interval o_timeoutAt o_next o_proceeding h0 n0 v U'.heap L ∧ FrameEnd U o U' L ({ frames := 1, cells := 0, slots := 0, locals := 12 } : Room).cells ({ frames := 1, cells := 0, slots := 0, locals := 12 } : Room).slots) := by
  refine MetFree.of_bodySF (plainFor_of_name own_pn0) hisR ?_
  intro p e s m args below meth c s₁ Bd hml0 hP hK
  obtain ⟨rfl, hZ, hh⟩ := hP
  have hx := Bd.exec
  have hby := Bd.bytes
  have hml : c.maxLocals = 3 := hml0
  have hown : s.vm.findClass "com/example/troskel/troskel/service/RetransmissionTimer" = some m.cls := findClass_of_methodNamed Bd.named
  have hnm := (name_of_methodNamed Bd.named Bd.method).1
  have X0 : Stand p l e ({ frames := 1, cells := 0, slots := 0, locals := 12 } : Room) s m #[(.ref ob), (.long u1)] below meth c s₁ [] 0 0 := Stand.of_body Bd
  have e0 : s₁.heap = h0 := by rw [← hh, Bd.state]; rfl
  have N0 := Fr.nil n0
  refine own_in ?_
  refine own_st (fun _ k => castTop (ef_1 m ob u1) k) ?_
  have K0 : Keep h0 h0 [ob] := Keep.refl h0 [ob]
  show own_Go _ _ _ _ (s₁.setTop (mkF m 0 #[.val (.ref ob), .val (.long u1), .second] []))
  refine own_st (fun _ k => XS.aloadN X0.here hx rfl (hb hby d1_0) rfl rfl k) ?_
  show own_Go _ _ _ _ (s₁.setTop (mkF m 1 #[.val (.ref ob), .val (.long u1), .second] [(.ref ob)]))
  obtain ⟨T2, X2, e2, st2⟩ := initO X0 hx hZ hown (hw _ (List.mem_of_getElem? (i := 7) rfl)) (hw _ (List.mem_of_getElem? (i := 8) rfl)) (hw _ (List.mem_of_getElem? (i := 9) rfl)) e0 (g := (mkF m 1 #[.val (.ref ob), .val (.long u1), .second] [(.ref ob)])) rfl (by rw [hml]; rfl) rfl (hb hby d1_1) (by decide) (W := 0) (by show 2 * 0 + _ ≤ _; exact Nat.le_of_eq rfl) (by decide)
  refine own_st st2 ?_
  show own_Go _ _ _ _ (T2.setTop (mkF m 4 #[.val (.ref ob), .val (.long u1), .second] []))
  refine own_st (fun _ k => XS.aloadN X2.here hx rfl (hb hby d1_4) rfl rfl k) ?_
  show own_Go _ _ _ _ (T2.setTop (mkF m 5 #[.val (.ref ob), .val (.long u1), .second] [(.ref ob)]))
  refine own_st (fun _ k => X2.ldc2Long hx hown (mvT hZ (hw _ (List.mem_of_getElem? (i := 10) rfl))) (g := (mkF m 5 #[.val (.ref ob), .val (.long u1), .second] [(.ref ob)])) rfl (hb hby d1_5) _ k) ?_
  show own_Go _ _ _ _ (T2.setTop (mkF m 8 #[.val (.ref ob), .val (.long u1), .second] [(.long (500000000 : Int64)), (.ref ob)]))
  obtain ⟨T3, h3, X3, e3, W3, st3⟩ := putF X2 hx hZ hown (host := "") (Or.inl (hw _ (List.mem_of_getElem? (i := 11) rfl))) Via.refl e2 F_interval E_ob (Or.inl (hw _ (List.mem_of_getElem? (i := 12) rfl))) (hw _ (List.mem_of_getElem? (i := 2) rfl)) (ty := .long) (by decide) rfl rfl (g := (mkF m 8 #[.val (.ref ob), .val (.long u1), .second] [(.long (500000000 : Int64)), (.ref ob)])) rfl rfl (hb hby d1_8)
  refine own_st st3 ?_
  have Fw3 : Fld Z h3 ob "com/example/troskel/troskel/service/RetransmissionTimer" "interval" "J" (.long (500000000 : Int64)) := F_interval.same W3
  have y3_E_ob := E_ob.wr W3
  have y3_F_ob_timeoutAt := F_timeoutAt.other W3 (Or.inr (slot_ne (Or.inr (hw _ (List.mem_of_getElem? (i := 15) rfl))) (Or.inl (hw _ (List.mem_of_getElem? (i := 12) rfl))) (by decide) (t := .long) (t' := .long) (by decide) (by decide)))
  have y3_F_ob_next := F_next.other W3 (Or.inr (slot_ne (Or.inl (hw _ (List.mem_of_getElem? (i := 17) rfl))) (Or.inl (hw _ (List.mem_of_getElem? (i := 12) rfl))) (by decide) (t := .long) (t' := .long) (by decide) (by decide)))
  have y3_F_ob_proceeding := F_proceeding.other W3 (Or.inr (slot_ne (Or.inl (hw _ (List.mem_of_getElem? (i := 44) rfl))) (Or.inl (hw _ (List.mem_of_getElem? (i := 12) rfl))) (by decide) (t := .boolean) (t' := .long) (by decide) (by decide)))
  have Z3 : n0 ≤ h3.size := Nat.le_trans Z0 (Nat.le_of_eq W3.size.symm)
  have N3 := Fr.snoc X3 N0 gnob
  have K3 : Keep h0 h3 [ob] := K0.wr W3 (Or.inl (by simp))
  show own_Go _ _ _ _ (T3.setTop (mkF m 11 #[.val (.ref ob), .val (.long u1), .second] []))
  refine own_st (fun _ k => XS.aloadN X3.here hx rfl (hb hby d1_11) rfl rfl k) ?_
  show own_Go _ _ _ _ (T3.setTop (mkF m 12 #[.val (.ref ob), .val (.long u1), .second] [(.ref ob)]))
  refine own_st (fun _ k => XS.lloadN X3.here hx rfl (hb hby d1_12) rfl k) ?_
  show own_Go _ _ _ _ (T3.setTop (mkF m 13 #[.val (.ref ob), .val (.long u1), .second] [(.long u1), (.ref ob)]))
  refine own_st (fun _ k => X3.ldc2Long hx hown (mvT hZ (hw _ (List.mem_of_getElem? (i := 13) rfl))) (g := (mkF m 13 #[.val (.ref ob), .val (.long u1), .second] [(.long u1), (.ref ob)])) rfl (hb hby d1_13) _ k) ?_
  show own_Go _ _ _ _ (T3.setTop (mkF m 16 #[.val (.ref ob), .val (.long u1), .second] [(.long (32000000000 : Int64)), (.long u1), (.ref ob)]))
  refine own_st (fun _ k => XS.ladd X3.here hx rfl (hb hby d1_16) rfl k) ?_
  show own_Go _ _ _ _ (T3.setTop (mkF m 17 #[.val (.ref ob), .val (.long u1), .second] [(.long (u1 + (32000000000 : Int64))), (.ref ob)]))
  obtain ⟨T4, h4, X4, e4, W4, st4⟩ := putF X3 hx hZ hown (host := "") (Or.inl (hw _ (List.mem_of_getElem? (i := 14) rfl))) Via.refl e3 y3_F_ob_timeoutAt y3_E_ob (Or.inr ⟨(hw _ (List.mem_of_getElem? (i := 15) rfl)), rfl, hnm⟩) (hw _ (List.mem_of_getElem? (i := 2) rfl)) (ty := .long) (by decide) rfl rfl (g := (mkF m 17 #[.val (.ref ob), .val (.long u1), .second] [(.long (u1 + (32000000000 : Int64))), (.ref ob)])) rfl rfl (hb hby d1_17)
  refine own_st st4 ?_
  have Fw4 : Fld Z h4 ob "com/example/troskel/troskel/service/RetransmissionTimer" "timeoutAt" "J" (.long (u1 + (32000000000 : Int64))) := y3_F_ob_timeoutAt.same W4
  have y4_E_ob := y3_E_ob.wr W4
  have y4_F_ob_interval := Fw3.other W4 (Or.inr (slot_ne (Or.inl (hw _ (List.mem_of_getElem? (i := 12) rfl))) (Or.inr (hw _ (List.mem_of_getElem? (i := 15) rfl))) (by decide) (t := .long) (t' := .long) (by decide) (by decide)))
  have y4_F_ob_next := y3_F_ob_next.other W4 (Or.inr (slot_ne (Or.inl (hw _ (List.mem_of_getElem? (i := 17) rfl))) (Or.inr (hw _ (List.mem_of_getElem? (i := 15) rfl))) (by decide) (t := .long) (t' := .long) (by decide) (by decide)))
  have y4_F_ob_proceeding := y3_F_ob_proceeding.other W4 (Or.inr (slot_ne (Or.inl (hw _ (List.mem_of_getElem? (i := 44) rfl))) (Or.inr (hw _ (List.mem_of_getElem? (i := 15) rfl))) (by decide) (t := .boolean) (t' := .long) (by decide) (by decide)))
  have Z4 : n0 ≤ h4.size := Nat.le_trans Z3 (Nat.le_of_eq W4.size.symm)
  have N4 := Fr.snoc X4 N3 gnob
  have K4 : Keep h0 h4 [ob] := K3.wr W4 (Or.inl (by simp))
  show own_Go _ _ _ _ (T4.setTop (mkF m 20 #[.val (.ref ob), .val (.long u1), .second] []))
  refine own_st (fun _ k => XS.aloadN X4.here hx rfl (hb hby d1_20) rfl rfl k) ?_
  show own_Go _ _ _ _ (T4.setTop (mkF m 21 #[.val (.ref ob), .val (.long u1), .second] [(.ref ob)]))
  refine own_st (fun _ k => XS.lloadN X4.here hx rfl (hb hby d1_21) rfl k) ?_
  show own_Go _ _ _ _ (T4.setTop (mkF m 22 #[.val (.ref ob), .val (.long u1), .second] [(.long u1), (.ref ob)]))
  refine own_st (fun _ k => X4.ldc2Long hx hown (mvT hZ (hw _ (List.mem_of_getElem? (i := 10) rfl))) (g := (mkF m 22 #[.val (.ref ob), .val (.long u1), .second] [(.long u1), (.ref ob)])) rfl (hb hby d1_22) _ k) ?_
  show own_Go _ _ _ _ (T4.setTop (mkF m 25 #[.val (.ref ob), .val (.long u1), .second] [(.long (500000000 : Int64)), (.long u1), (.ref ob)]))
  refine own_st (fun _ k => XS.ladd X4.here hx rfl (hb hby d1_25) rfl k) ?_
  show own_Go _ _ _ _ (T4.setTop (mkF m 26 #[.val (.ref ob), .val (.long u1), .second] [(.long (u1 + (500000000 : Int64))), (.ref ob)]))
  obtain ⟨T5, h5, X5, e5, W5, st5⟩ := putF X4 hx hZ hown (host := "") (Or.inl (hw _ (List.mem_of_getElem? (i := 16) rfl))) Via.refl e4 y4_F_ob_next y4_E_ob (Or.inl (hw _ (List.mem_of_getElem? (i := 17) rfl))) (hw _ (List.mem_of_getElem? (i := 2) rfl)) (ty := .long) (by decide) rfl rfl (g := (mkF m 26 #[.val (.ref ob), .val (.long u1), .second] [(.long (u1 + (500000000 : Int64))), (.ref ob)])) rfl rfl (hb hby d1_26)
  refine own_st st5 ?_
  have Fw5 : Fld Z h5 ob "com/example/troskel/troskel/service/RetransmissionTimer" "next" "J" (.long (u1 + (500000000 : Int64))) := y4_F_ob_next.same W5
  have y5_E_ob := y4_E_ob.wr W5
  have y5_F_ob_interval := y4_F_ob_interval.other W5 (Or.inr (slot_ne (Or.inl (hw _ (List.mem_of_getElem? (i := 12) rfl))) (Or.inl (hw _ (List.mem_of_getElem? (i := 17) rfl))) (by decide) (t := .long) (t' := .long) (by decide) (by decide)))
  have y5_F_ob_timeoutAt := Fw4.other W5 (Or.inr (slot_ne (Or.inr (hw _ (List.mem_of_getElem? (i := 15) rfl))) (Or.inl (hw _ (List.mem_of_getElem? (i := 17) rfl))) (by decide) (t := .long) (t' := .long) (by decide) (by decide)))
  have y5_F_ob_proceeding := y4_F_ob_proceeding.other W5 (Or.inr (slot_ne (Or.inl (hw _ (List.mem_of_getElem? (i := 44) rfl))) (Or.inl (hw _ (List.mem_of_getElem? (i := 17) rfl))) (by decide) (t := .boolean) (t' := .long) (by decide) (by decide)))
  have Z5 : n0 ≤ h5.size := Nat.le_trans Z4 (Nat.le_of_eq W5.size.symm)
  have N5 := Fr.snoc X5 N4 gnob
  have K5 : Keep h0 h5 [ob] := K4.wr W5 (Or.inl (by simp))
  show own_Go _ _ _ _ (T5.setTop (mkF m 29 #[.val (.ref ob), .val (.long u1), .second] []))
  obtain ⟨fs, hr, hrun, hended, hW, hsame⟩ := X5.leave (v := none) (fun _ => rfl)
  refine own_out (X5.returnOut hx Bd.returns (hb hby d1_29) hr) ⟨hrun, hended, _, _, rfl, ?_, ⟨_, rfl⟩, hW, hsame.mono (by decide) (by decide)⟩
  show Q1 Z ob u1 o_interval o_timeoutAt o_next o_proceeding h0 n0 _ T5.heap _
  rw [e5]
  exact ⟨rfl, N5, K5, y5_E_ob, y5_F_ob_interval, y5_F_ob_timeoutAt, Fw5, y5_F_ob_proceeding⟩
def own_to (u1 : Int64) (f1 : Int64) : Int32 := (if (lcmpW (u1 - f1) (0 : Int64)) < (0 : Int32) then (0 : Int32) else (1 : Int32))
theorem d5_0 : decode prog_49_method_3_code 0 = .ok (.lload_n 1, 1) := by decide +kernel
theorem d5_1 : decode prog_49_method_3_code 1 = .ok (.aload_n 0, 1) := by decide +kernel
theorem d5_2 : decode prog_49_method_3_code 2 = .ok (.getfield 17, 3) := by decide +kernel
theorem d5_5 : decode prog_49_method_3_code 5 = .ok (.lsub, 1) := by decide +kernel
theorem d5_6 : decode prog_49_method_3_code 6 = .ok (.lconst 0, 1) := by decide +kernel
theorem d5_7 : decode prog_49_method_3_code 7 = .ok (.lcmp, 1) := by decide +kernel
theorem d5_8 : decode prog_49_method_3_code 8 = .ok (.ifCond .lt 7, 3) := by decide +kernel
theorem d5_11 : decode prog_49_method_3_code 11 = .ok (.iconst 1, 1) := by decide +kernel
theorem d5_12 : decode prog_49_method_3_code 12 = .ok (.goto 4, 3) := by decide +kernel
theorem d5_15 : decode prog_49_method_3_code 15 = .ok (.iconst 0, 1) := by decide +kernel
theorem d5_16 : decode prog_49_method_3_code 16 = .ok (.ireturn, 1) := by decide +kernel
theorem own_pd2 : parseMethodDescriptor "(J)Z" = some ⟨[.long], some .boolean⟩ := by decide +kernel
def Q5 (Z : State) (ob : Addr) (u1 : Int64) (f1 : Int64) (h0 : Heap) (n0 : Nat) (v : Option Value) (h : Heap) (L : List Loc) : Prop := v = some (.int (own_to u1 f1)) ∧ Fr n0 L ∧ h = h0
theorem ef_5 (m : MethodId) (x0 : Addr) (x1 : Int64) : entryFrame m #[(.ref x0), (.long x1)] 3 = mkF m 0 #[.val (.ref x0), .val (.long x1), .second] [] := by first | (simp [entryFrame, mkF, argsToLocals, Value.category]; done) | rfl
set_option maxRecDepth 65536 in
set_option maxHeartbeats 40000000 in
theorem rm5 (l : Launch) (Z : State) (a0 : Array Value) (hw : ∀ d ∈ tables_1, d.before a0 Z = true) (ws : List Jvm.Cond) (ob : Addr) (u1 : Int64) (f1 : Int64) (h0 : Heap) (n0 : Nat) (Z0 : n0 ≤ h0.size) (F_timeoutAt : Fld Z h0 ob "com/example/troskel/troskel/service/RetransmissionTimer" "timeoutAt" "J" (.long f1))  :
    MetFree l (⟨"com/example/troskel/troskel/service/RetransmissionTimer", "timedOut", "(J)Z"⟩ : MethodName) (head1 (Jvm.Cond.code (⟨"com/example/troskel/troskel/service/RetransmissionTimer", "timedOut", "(J)Z"⟩ : MethodName) prog_49_method_3_code 3 (some .boolean) :: ws) ({ frames := 0, cells := 0, slots := 0, locals := 0 } : Room)) (fun a U => a = #[(.ref ob), (.long u1)] ∧ Z.Warmed39 U.vm ∧ U.heap = h0) (fun _ _ _ _ _ => True) (fun _ U o U' => ∃ v L, o = .returned v ∧ Q5 Z ob u1 f1 h0 n0 v U'.heap L ∧ FrameEnd U o U' L ({ frames := 0, cells := 0, slots := 0, locals := 0 } : Room).cells ({ frames := 0, cells := 0, slots := 0, locals := 0 } : Room).slots) := by
  refine MetFree.of_bodySF (plainFor_of_name own_pn0) hisR ?_
  intro p e s m args below meth c s₁ Bd hml0 hP hK
  obtain ⟨rfl, hZ, hh⟩ := hP
  have hx := Bd.exec
  have hby := Bd.bytes
  have hml : c.maxLocals = 3 := hml0
  have hown : s.vm.findClass "com/example/troskel/troskel/service/RetransmissionTimer" = some m.cls := findClass_of_methodNamed Bd.named
  have hnm := (name_of_methodNamed Bd.named Bd.method).1
  have X0 : Stand p l e ({ frames := 0, cells := 0, slots := 0, locals := 0 } : Room) s m #[(.ref ob), (.long u1)] below meth c s₁ [] 0 0 := Stand.of_body Bd
  have e0 : s₁.heap = h0 := by rw [← hh, Bd.state]; rfl
  have N0 := Fr.nil n0
  refine own_in ?_
  refine own_st (fun _ k => castTop (ef_5 m ob u1) k) ?_
  have K0 : Keep h0 h0 [] := Keep.refl h0 []
  show own_Go _ _ _ _ (s₁.setTop (mkF m 0 #[.val (.ref ob), .val (.long u1), .second] []))
  refine own_st (fun _ k => XS.lloadN X0.here hx rfl (hb hby d5_0) rfl k) ?_
  show own_Go _ _ _ _ (s₁.setTop (mkF m 1 #[.val (.ref ob), .val (.long u1), .second] [(.long u1)]))
  refine own_st (fun _ k => XS.aloadN X0.here hx rfl (hb hby d5_1) rfl rfl k) ?_
  show own_Go _ _ _ _ (s₁.setTop (mkF m 2 #[.val (.ref ob), .val (.long u1), .second] [(.ref ob), (.long u1)]))
  obtain ⟨T6, X6, e6, st6⟩ := getF X0 hx hZ hown (host := "") (Or.inl (hw _ (List.mem_of_getElem? (i := 14) rfl))) Via.refl e0 F_timeoutAt (g := (mkF m 2 #[.val (.ref ob), .val (.long u1), .second] [(.ref ob), (.long u1)])) rfl rfl (hb hby d5_2)
  refine own_st st6 ?_
  show own_Go _ _ _ _ (T6.setTop (mkF m 5 #[.val (.ref ob), .val (.long u1), .second] [(.long f1), (.long u1)]))
  refine own_st (fun _ k => XS.lsub X6.here hx rfl (hb hby d5_5) rfl k) ?_
  show own_Go _ _ _ _ (T6.setTop (mkF m 6 #[.val (.ref ob), .val (.long u1), .second] [(.long (u1 - f1))]))
  refine own_st (fun _ k => XS.lconst X6.here hx rfl (hb hby d5_6) k) ?_
  show own_Go _ _ _ _ (T6.setTop (mkF m 7 #[.val (.ref ob), .val (.long u1), .second] [(.long (0 : Int64)), (.long (u1 - f1))]))
  refine own_st (fun _ k => XS.lcmp X6.here hx rfl (hb hby d5_7) rfl k) ?_
  show own_Go _ _ _ _ (T6.setTop (mkF m 8 #[.val (.ref ob), .val (.long u1), .second] [(.int (lcmpW (u1 - f1) (0 : Int64)))]))
  by_cases hc7 : (lcmpW (u1 - f1) (0 : Int64)) < (0 : Int32)
  · skip
    refine own_st (fun _ k => XS.ifYes X6.here hx rfl (pc0 := 8) (pc' := 15) rfl (hb hby d5_8) rfl ((if0 _ _).trans (tlt hc7).1) (by decide) (by decide) k) ?_
    show own_Go _ _ _ _ (T6.setTop (mkF m 15 #[.val (.ref ob), .val (.long u1), .second] []))
    refine own_st (fun _ k => XS.iconst X6.here hx rfl (hb hby d5_15) k) ?_
    show own_Go _ _ _ _ (T6.setTop (mkF m 16 #[.val (.ref ob), .val (.long u1), .second] [(.int (0 : Int32))]))
    obtain ⟨fs, hr, hrun, hended, hW, hsame⟩ := X6.leave (v := some (.int (0 : Int32))) (fun h => by rw [Bd.returns] at h; cases h)
    refine own_out (retN X6 hx (t := .boolean) Bd.returns (by simp) (hb hby d5_16) hr) ⟨hrun, hended, _, _, rfl, ?_, ⟨_, rfl⟩, hW, hsame.mono (by decide) (by decide)⟩
    show Q5 Z ob u1 f1 h0 n0 _ T6.heap _
    have hv : own_to u1 f1 = (0 : Int32) := by
      unfold own_to
      rw [if_pos hc7]
    exact ⟨by rw [hv], N0, e6⟩
  · skip
    refine own_st (fun _ k => XS.ifNo X6.here hx rfl (hb hby d5_8) rfl ((if0 _ _).trans (flt hc7).1) k) ?_
    show own_Go _ _ _ _ (T6.setTop (mkF m 11 #[.val (.ref ob), .val (.long u1), .second] []))
    refine own_st (fun _ k => XS.iconst X6.here hx rfl (hb hby d5_11) k) ?_
    show own_Go _ _ _ _ (T6.setTop (mkF m 12 #[.val (.ref ob), .val (.long u1), .second] [(.int (1 : Int32))]))
    refine own_st (fun _ k => XS.goto X6.here hx rfl (pc0 := 12) (pc' := 16) rfl (hb hby d5_12) (by decide) (by decide) k) ?_
    show own_Go _ _ _ _ (T6.setTop (mkF m 16 #[.val (.ref ob), .val (.long u1), .second] [(.int (1 : Int32))]))
    obtain ⟨fs, hr, hrun, hended, hW, hsame⟩ := X6.leave (v := some (.int (1 : Int32))) (fun h => by rw [Bd.returns] at h; cases h)
    refine own_out (retN X6 hx (t := .boolean) Bd.returns (by simp) (hb hby d5_16) hr) ⟨hrun, hended, _, _, rfl, ?_, ⟨_, rfl⟩, hW, hsame.mono (by decide) (by decide)⟩
    show Q5 Z ob u1 f1 h0 n0 _ T6.heap _
    have hv : own_to u1 f1 = (1 : Int32) := by
      unfold own_to
      rw [if_neg hc7]
    exact ⟨by rw [hv], N0, e6⟩
def own_due  (f1 : Int64) (f2 : Int64) : Int64 := (if (lcmpW (f1 - f2) (0 : Int64)) < (0 : Int32) then f1 else f2)
theorem d3_0 : decode prog_49_method_2_code 0 = .ok (.aload_n 0, 1) := by decide +kernel
theorem d3_1 : decode prog_49_method_2_code 1 = .ok (.getfield 20, 3) := by decide +kernel
theorem d3_4 : decode prog_49_method_2_code 4 = .ok (.aload_n 0, 1) := by decide +kernel
theorem d3_5 : decode prog_49_method_2_code 5 = .ok (.getfield 17, 3) := by decide +kernel
theorem d3_8 : decode prog_49_method_2_code 8 = .ok (.lsub, 1) := by decide +kernel
theorem d3_9 : decode prog_49_method_2_code 9 = .ok (.lconst 0, 1) := by decide +kernel
theorem d3_10 : decode prog_49_method_2_code 10 = .ok (.lcmp, 1) := by decide +kernel
theorem d3_11 : decode prog_49_method_2_code 11 = .ok (.ifCond .ge 10, 3) := by decide +kernel
theorem d3_14 : decode prog_49_method_2_code 14 = .ok (.aload_n 0, 1) := by decide +kernel
theorem d3_15 : decode prog_49_method_2_code 15 = .ok (.getfield 20, 3) := by decide +kernel
theorem d3_18 : decode prog_49_method_2_code 18 = .ok (.goto 7, 3) := by decide +kernel
theorem d3_21 : decode prog_49_method_2_code 21 = .ok (.aload_n 0, 1) := by decide +kernel
theorem d3_22 : decode prog_49_method_2_code 22 = .ok (.getfield 17, 3) := by decide +kernel
theorem d3_25 : decode prog_49_method_2_code 25 = .ok (.lreturn, 1) := by decide +kernel
theorem own_pd3 : parseMethodDescriptor "()J" = some ⟨[], some .long⟩ := by decide +kernel
def Q3 (Z : State) (ob : Addr)  (f1 : Int64) (f2 : Int64) (h0 : Heap) (n0 : Nat) (v : Option Value) (h : Heap) (L : List Loc) : Prop := v = some (.long (own_due f1 f2)) ∧ Fr n0 L ∧ h = h0
theorem ef_3 (m : MethodId) (x0 : Addr) : entryFrame m #[(.ref x0)] 1 = mkF m 0 #[.val (.ref x0)] [] := by first | (simp [entryFrame, mkF, argsToLocals, Value.category]; done) | rfl
set_option maxRecDepth 65536 in
set_option maxHeartbeats 40000000 in
theorem rm3 (l : Launch) (Z : State) (a0 : Array Value) (hw : ∀ d ∈ tables_1, d.before a0 Z = true) (ws : List Jvm.Cond) (ob : Addr)  (f1 : Int64) (f2 : Int64) (h0 : Heap) (n0 : Nat) (Z0 : n0 ≤ h0.size) (F_next : Fld Z h0 ob "com/example/troskel/troskel/service/RetransmissionTimer" "next" "J" (.long f1)) (F_timeoutAt : Fld Z h0 ob "com/example/troskel/troskel/service/RetransmissionTimer" "timeoutAt" "J" (.long f2))  :
    MetFree l (⟨"com/example/troskel/troskel/service/RetransmissionTimer", "dueNanos", "()J"⟩ : MethodName) (head1 (Jvm.Cond.code (⟨"com/example/troskel/troskel/service/RetransmissionTimer", "dueNanos", "()J"⟩ : MethodName) prog_49_method_2_code 1 (some .long) :: ws) ({ frames := 0, cells := 0, slots := 0, locals := 0 } : Room)) (fun a U => a = #[(.ref ob)] ∧ Z.Warmed39 U.vm ∧ U.heap = h0) (fun _ _ _ _ _ => True) (fun _ U o U' => ∃ v L, o = .returned v ∧ Q3 Z ob f1 f2 h0 n0 v U'.heap L ∧ FrameEnd U o U' L ({ frames := 0, cells := 0, slots := 0, locals := 0 } : Room).cells ({ frames := 0, cells := 0, slots := 0, locals := 0 } : Room).slots) := by
  refine MetFree.of_bodySF (plainFor_of_name own_pn0) hisR ?_
  intro p e s m args below meth c s₁ Bd hml0 hP hK
  obtain ⟨rfl, hZ, hh⟩ := hP
  have hx := Bd.exec
  have hby := Bd.bytes
  have hml : c.maxLocals = 1 := hml0
  have hown : s.vm.findClass "com/example/troskel/troskel/service/RetransmissionTimer" = some m.cls := findClass_of_methodNamed Bd.named
  have hnm := (name_of_methodNamed Bd.named Bd.method).1
  have X0 : Stand p l e ({ frames := 0, cells := 0, slots := 0, locals := 0 } : Room) s m #[(.ref ob)] below meth c s₁ [] 0 0 := Stand.of_body Bd
  have e0 : s₁.heap = h0 := by rw [← hh, Bd.state]; rfl
  have N0 := Fr.nil n0
  refine own_in ?_
  refine own_st (fun _ k => castTop (ef_3 m ob) k) ?_
  have K0 : Keep h0 h0 [] := Keep.refl h0 []
  show own_Go _ _ _ _ (s₁.setTop (mkF m 0 #[.val (.ref ob)] []))
  refine own_st (fun _ k => XS.aloadN X0.here hx rfl (hb hby d3_0) rfl rfl k) ?_
  show own_Go _ _ _ _ (s₁.setTop (mkF m 1 #[.val (.ref ob)] [(.ref ob)]))
  obtain ⟨T8, X8, e8, st8⟩ := getF X0 hx hZ hown (host := "") (Or.inl (hw _ (List.mem_of_getElem? (i := 16) rfl))) Via.refl e0 F_next (g := (mkF m 1 #[.val (.ref ob)] [(.ref ob)])) rfl rfl (hb hby d3_1)
  refine own_st st8 ?_
  show own_Go _ _ _ _ (T8.setTop (mkF m 4 #[.val (.ref ob)] [(.long f1)]))
  refine own_st (fun _ k => XS.aloadN X8.here hx rfl (hb hby d3_4) rfl rfl k) ?_
  show own_Go _ _ _ _ (T8.setTop (mkF m 5 #[.val (.ref ob)] [(.ref ob), (.long f1)]))
  obtain ⟨T9, X9, e9, st9⟩ := getF X8 hx hZ hown (host := "") (Or.inl (hw _ (List.mem_of_getElem? (i := 14) rfl))) Via.refl e8 F_timeoutAt (g := (mkF m 5 #[.val (.ref ob)] [(.ref ob), (.long f1)])) rfl rfl (hb hby d3_5)
  refine own_st st9 ?_
  show own_Go _ _ _ _ (T9.setTop (mkF m 8 #[.val (.ref ob)] [(.long f2), (.long f1)]))
  refine own_st (fun _ k => XS.lsub X9.here hx rfl (hb hby d3_8) rfl k) ?_
  show own_Go _ _ _ _ (T9.setTop (mkF m 9 #[.val (.ref ob)] [(.long (f1 - f2))]))
  refine own_st (fun _ k => XS.lconst X9.here hx rfl (hb hby d3_9) k) ?_
  show own_Go _ _ _ _ (T9.setTop (mkF m 10 #[.val (.ref ob)] [(.long (0 : Int64)), (.long (f1 - f2))]))
  refine own_st (fun _ k => XS.lcmp X9.here hx rfl (hb hby d3_10) rfl k) ?_
  show own_Go _ _ _ _ (T9.setTop (mkF m 11 #[.val (.ref ob)] [(.int (lcmpW (f1 - f2) (0 : Int64)))]))
  by_cases hc10 : (lcmpW (f1 - f2) (0 : Int64)) < (0 : Int32)
  · skip
    refine own_st (fun _ k => XS.ifNo X9.here hx rfl (hb hby d3_11) rfl ((if0 _ _).trans (tlt hc10).2.1) k) ?_
    show own_Go _ _ _ _ (T9.setTop (mkF m 14 #[.val (.ref ob)] []))
    refine own_st (fun _ k => XS.aloadN X9.here hx rfl (hb hby d3_14) rfl rfl k) ?_
    show own_Go _ _ _ _ (T9.setTop (mkF m 15 #[.val (.ref ob)] [(.ref ob)]))
    obtain ⟨T11, X11, e11, st11⟩ := getF X9 hx hZ hown (host := "") (Or.inl (hw _ (List.mem_of_getElem? (i := 16) rfl))) Via.refl e9 F_next (g := (mkF m 15 #[.val (.ref ob)] [(.ref ob)])) rfl rfl (hb hby d3_15)
    refine own_st st11 ?_
    show own_Go _ _ _ _ (T11.setTop (mkF m 18 #[.val (.ref ob)] [(.long f1)]))
    refine own_st (fun _ k => XS.goto X11.here hx rfl (pc0 := 18) (pc' := 25) rfl (hb hby d3_18) (by decide) (by decide) k) ?_
    show own_Go _ _ _ _ (T11.setTop (mkF m 25 #[.val (.ref ob)] [(.long f1)]))
    obtain ⟨fs, hr, hrun, hended, hW, hsame⟩ := X11.leave (v := some (.long f1)) (fun h => by rw [Bd.returns] at h; cases h)
    refine own_out (X11.lreturnOut hx Bd.returns (hb hby d3_25) hr) ⟨hrun, hended, _, _, rfl, ?_, ⟨_, rfl⟩, hW, hsame.mono (by decide) (by decide)⟩
    show Q3 Z ob f1 f2 h0 n0 _ T11.heap _
    have hv : own_due f1 f2 = f1 := by
      unfold own_due
      rw [if_pos hc10]
    exact ⟨by rw [hv], N0, e11⟩
  · skip
    refine own_st (fun _ k => XS.ifYes X9.here hx rfl (pc0 := 11) (pc' := 21) rfl (hb hby d3_11) rfl ((if0 _ _).trans (flt hc10).2.1) (by decide) (by decide) k) ?_
    show own_Go _ _ _ _ (T9.setTop (mkF m 21 #[.val (.ref ob)] []))
    refine own_st (fun _ k => XS.aloadN X9.here hx rfl (hb hby d3_21) rfl rfl k) ?_
    show own_Go _ _ _ _ (T9.setTop (mkF m 22 #[.val (.ref ob)] [(.ref ob)]))
    obtain ⟨T12, X12, e12, st12⟩ := getF X9 hx hZ hown (host := "") (Or.inl (hw _ (List.mem_of_getElem? (i := 14) rfl))) Via.refl e9 F_timeoutAt (g := (mkF m 22 #[.val (.ref ob)] [(.ref ob)])) rfl rfl (hb hby d3_22)
    refine own_st st12 ?_
    show own_Go _ _ _ _ (T12.setTop (mkF m 25 #[.val (.ref ob)] [(.long f2)]))
    obtain ⟨fs, hr, hrun, hended, hW, hsame⟩ := X12.leave (v := some (.long f2)) (fun h => by rw [Bd.returns] at h; cases h)
    refine own_out (X12.lreturnOut hx Bd.returns (hb hby d3_25) hr) ⟨hrun, hended, _, _, rfl, ?_, ⟨_, rfl⟩, hW, hsame.mono (by decide) (by decide)⟩
    show Q3 Z ob f1 f2 h0 n0 _ T12.heap _
    have hv : own_due f1 f2 = f2 := by
      unfold own_due
      rw [if_neg hc10]
    exact ⟨by rw [hv], N0, e12⟩
theorem d7_0 : decode prog_49_method_5_code 0 = .ok (.aload_n 0, 1) := by decide +kernel
theorem d7_1 : decode prog_49_method_5_code 1 = .ok (.iconst 1, 1) := by decide +kernel
theorem d7_2 : decode prog_49_method_5_code 2 = .ok (.putfield 27, 3) := by decide +kernel
theorem d7_5 : decode prog_49_method_5_code 5 = .ok (.return_, 1) := by decide +kernel
theorem own_pd4 : parseMethodDescriptor "()V" = some ⟨[], none⟩ := by decide +kernel
def Q7 (Z : State) (ob : Addr) (o_interval : Value) (o_timeoutAt : Value) (o_next : Value) (o_proceeding : Value) (h0 : Heap) (n0 : Nat) (v : Option Value) (h : Heap) (L : List Loc) : Prop := v = none ∧ Fr n0 L ∧ Keep h0 h [ob] ∧ Exa Z h ob "com/example/troskel/troskel/service/RetransmissionTimer" ∧ Fld Z h ob "com/example/troskel/troskel/service/RetransmissionTimer" "interval" "J" o_interval ∧ Fld Z h ob "com/example/troskel/troskel/service/RetransmissionTimer" "timeoutAt" "J" o_timeoutAt ∧ Fld Z h ob "com/example/troskel/troskel/service/RetransmissionTimer" "next" "J" o_next ∧ Fld Z h ob "com/example/troskel/troskel/service/RetransmissionTimer" "proceeding" "Z" (.int (1 : Int32))
theorem ef_7 (m : MethodId) (x0 : Addr) : entryFrame m #[(.ref x0)] 1 = mkF m 0 #[.val (.ref x0)] [] := by first | (simp [entryFrame, mkF, argsToLocals, Value.category]; done) | rfl
set_option maxRecDepth 65536 in
set_option maxHeartbeats 40000000 in
theorem rm7 (l : Launch) (Z : State) (a0 : Array Value) (hw : ∀ d ∈ tables_1, d.before a0 Z = true) (ws : List Jvm.Cond) (ob : Addr) (o_interval : Value) (o_timeoutAt : Value) (o_next : Value) (o_proceeding : Value) (h0 : Heap) (n0 : Nat) (Z0 : n0 ≤ h0.size) (E_ob : Exa Z h0 ob "com/example/troskel/troskel/service/RetransmissionTimer") (gnob : n0 ≤ ob) (F_interval : Fld Z h0 ob "com/example/troskel/troskel/service/RetransmissionTimer" "interval" "J" o_interval) (F_timeoutAt : Fld Z h0 ob "com/example/troskel/troskel/service/RetransmissionTimer" "timeoutAt" "J" o_timeoutAt) (F_next : Fld Z h0 ob "com/example/troskel/troskel/service/RetransmissionTimer" "next" "J" o_next) (F_proceeding : Fld Z h0 ob "com/example/troskel/troskel/service/RetransmissionTimer" "proceeding" "Z" o_proceeding)  :
    MetFree l (⟨"com/example/troskel/troskel/service/RetransmissionTimer", "provisional", "()V"⟩ : MethodName) (head1 (Jvm.Cond.code (⟨"com/example/troskel/troskel/service/RetransmissionTimer", "provisional", "()V"⟩ : MethodName) prog_49_method_5_code 1 none :: ws) ({ frames := 0, cells := 0, slots := 0, locals := 0 } : Room)) (fun a U => a = #[(.ref ob)] ∧ Z.Warmed39 U.vm ∧ U.heap = h0) (fun _ _ _ _ _ => True) (fun _ U o U' => ∃ v L, o = .returned v ∧ Q7 Z ob o_interval o_timeoutAt o_next o_proceeding h0 n0 v U'.heap L ∧ FrameEnd U o U' L ({ frames := 0, cells := 0, slots := 0, locals := 0 } : Room).cells ({ frames := 0, cells := 0, slots := 0, locals := 0 } : Room).slots) := by
  refine MetFree.of_bodySF (plainFor_of_name own_pn0) hisR ?_
  intro p e s m args below meth c s₁ Bd hml0 hP hK
  obtain ⟨rfl, hZ, hh⟩ := hP
  have hx := Bd.exec
  have hby := Bd.bytes
  have hml : c.maxLocals = 1 := hml0
  have hown : s.vm.findClass "com/example/troskel/troskel/service/RetransmissionTimer" = some m.cls := findClass_of_methodNamed Bd.named
  have hnm := (name_of_methodNamed Bd.named Bd.method).1
  have X0 : Stand p l e ({ frames := 0, cells := 0, slots := 0, locals := 0 } : Room) s m #[(.ref ob)] below meth c s₁ [] 0 0 := Stand.of_body Bd
  have e0 : s₁.heap = h0 := by rw [← hh, Bd.state]; rfl
  have N0 := Fr.nil n0
  refine own_in ?_
  refine own_st (fun _ k => castTop (ef_7 m ob) k) ?_
  have K0 : Keep h0 h0 [ob] := Keep.refl h0 [ob]
  show own_Go _ _ _ _ (s₁.setTop (mkF m 0 #[.val (.ref ob)] []))
  refine own_st (fun _ k => XS.aloadN X0.here hx rfl (hb hby d7_0) rfl rfl k) ?_
  show own_Go _ _ _ _ (s₁.setTop (mkF m 1 #[.val (.ref ob)] [(.ref ob)]))
  refine own_st (fun _ k => XS.iconst X0.here hx rfl (hb hby d7_1) k) ?_
  show own_Go _ _ _ _ (s₁.setTop (mkF m 2 #[.val (.ref ob)] [(.int (1 : Int32)), (.ref ob)]))
  obtain ⟨T13, h13, X13, e13, W13, st13⟩ := putFN X0 hx hZ hown (hw _ (List.mem_of_getElem? (i := 43) rfl)) Via.refl e0 F_proceeding E_ob (Or.inl (hw _ (List.mem_of_getElem? (i := 44) rfl))) (hw _ (List.mem_of_getElem? (i := 2) rfl)) (ty := .boolean) (v' := (.int (1 : Int32))) (by decide) rfl (by decide) (g := (mkF m 2 #[.val (.ref ob)] [(.int (1 : Int32)), (.ref ob)])) rfl rfl (hb hby d7_2)
  refine own_st st13 ?_
  have Fw13 : Fld Z h13 ob "com/example/troskel/troskel/service/RetransmissionTimer" "proceeding" "Z" (.int (1 : Int32)) := F_proceeding.same W13
  have y13_E_ob := E_ob.wr W13
  have y13_F_ob_interval := F_interval.other W13 (Or.inr (slot_ne (Or.inl (hw _ (List.mem_of_getElem? (i := 12) rfl))) (Or.inl (hw _ (List.mem_of_getElem? (i := 44) rfl))) (by decide) (t := .long) (t' := .boolean) (by decide) (by decide)))
  have y13_F_ob_timeoutAt := F_timeoutAt.other W13 (Or.inr (slot_ne (Or.inr (hw _ (List.mem_of_getElem? (i := 15) rfl))) (Or.inl (hw _ (List.mem_of_getElem? (i := 44) rfl))) (by decide) (t := .long) (t' := .boolean) (by decide) (by decide)))
  have y13_F_ob_next := F_next.other W13 (Or.inr (slot_ne (Or.inl (hw _ (List.mem_of_getElem? (i := 17) rfl))) (Or.inl (hw _ (List.mem_of_getElem? (i := 44) rfl))) (by decide) (t := .long) (t' := .boolean) (by decide) (by decide)))
  have Z13 : n0 ≤ h13.size := Nat.le_trans Z0 (Nat.le_of_eq W13.size.symm)
  have N13 := Fr.snoc X13 N0 gnob
  have K13 : Keep h0 h13 [ob] := K0.wr W13 (Or.inl (by simp))
  show own_Go _ _ _ _ (T13.setTop (mkF m 5 #[.val (.ref ob)] []))
  obtain ⟨fs, hr, hrun, hended, hW, hsame⟩ := X13.leave (v := none) (fun _ => rfl)
  refine own_out (X13.returnOut hx Bd.returns (hb hby d7_5) hr) ⟨hrun, hended, _, _, rfl, ?_, ⟨_, rfl⟩, hW, hsame.mono (by decide) (by decide)⟩
  show Q7 Z ob o_interval o_timeoutAt o_next o_proceeding h0 n0 _ T13.heap _
  rw [e13]
  exact ⟨rfl, N13, K13, y13_E_ob, y13_F_ob_interval, y13_F_ob_timeoutAt, y13_F_ob_next, Fw13⟩
def own_eo (u0 : Int64) (u1 : Int32) : Int64 := (if (lcmpW u0 (500000000 : Int64)) < (0 : Int32) then (500000000 : Int64) else (if (lcmpW u0 (32000000000 : Int64)) < (0 : Int32) then (if u1 = (0 : Int32) then (if (lcmpW u0 (1500000000 : Int64)) < (0 : Int32) then (1500000000 : Int64) else (if (lcmpW u0 (3500000000 : Int64)) < (0 : Int32) then (3500000000 : Int64) else (if (lcmpW u0 (7500000000 : Int64)) < (0 : Int32) then (7500000000 : Int64) else (own_mn ((7500000000 : Int64) + ((4000000000 : Int64) * (((u0 - (7500000000 : Int64)) / (4000000000 : Int64)) + (1 : Int64)))) (32000000000 : Int64))))) else (own_mn ((500000000 : Int64) + ((4000000000 : Int64) * (((u0 - (500000000 : Int64)) / (4000000000 : Int64)) + (1 : Int64)))) (32000000000 : Int64))) else (500000000 : Int64)))
theorem d6_0 : decode method_2_code 0 = .ok (.lload_n 0, 1) := by decide +kernel
theorem d6_1 : decode method_2_code 1 = .ok (.ldc2_w 9, 3) := by decide +kernel
theorem d6_4 : decode method_2_code 4 = .ok (.lcmp, 1) := by decide +kernel
theorem d6_5 : decode method_2_code 5 = .ok (.ifCond .lt 11, 3) := by decide +kernel
theorem d6_8 : decode method_2_code 8 = .ok (.lload_n 0, 1) := by decide +kernel
theorem d6_9 : decode method_2_code 9 = .ok (.ldc2_w 11, 3) := by decide +kernel
theorem d6_12 : decode method_2_code 12 = .ok (.lcmp, 1) := by decide +kernel
theorem d6_13 : decode method_2_code 13 = .ok (.ifCond .lt 7, 3) := by decide +kernel
theorem d6_16 : decode method_2_code 16 = .ok (.ldc2_w 9, 3) := by decide +kernel
theorem d6_19 : decode method_2_code 19 = .ok (.lreturn, 1) := by decide +kernel
theorem d6_20 : decode method_2_code 20 = .ok (.iload_n 2, 1) := by decide +kernel
theorem d6_21 : decode method_2_code 21 = .ok (.ifCond .eq 26, 3) := by decide +kernel
theorem d6_24 : decode method_2_code 24 = .ok (.ldc2_w 9, 3) := by decide +kernel
theorem d6_27 : decode method_2_code 27 = .ok (.ldc2_w 13, 3) := by decide +kernel
theorem d6_30 : decode method_2_code 30 = .ok (.lload_n 0, 1) := by decide +kernel
theorem d6_31 : decode method_2_code 31 = .ok (.ldc2_w 9, 3) := by decide +kernel
theorem d6_34 : decode method_2_code 34 = .ok (.lsub, 1) := by decide +kernel
theorem d6_35 : decode method_2_code 35 = .ok (.ldc2_w 13, 3) := by decide +kernel
theorem d6_38 : decode method_2_code 38 = .ok (.ldiv, 1) := by decide +kernel
theorem d6_39 : decode method_2_code 39 = .ok (.lconst 1, 1) := by decide +kernel
theorem d6_40 : decode method_2_code 40 = .ok (.ladd, 1) := by decide +kernel
theorem d6_41 : decode method_2_code 41 = .ok (.lmul, 1) := by decide +kernel
theorem d6_42 : decode method_2_code 42 = .ok (.ladd, 1) := by decide +kernel
theorem d6_43 : decode method_2_code 43 = .ok (.lstore_n 3, 1) := by decide +kernel
theorem d6_44 : decode method_2_code 44 = .ok (.goto 68, 3) := by decide +kernel
theorem d6_47 : decode method_2_code 47 = .ok (.lload_n 0, 1) := by decide +kernel
theorem d6_48 : decode method_2_code 48 = .ok (.ldc2_w 15, 3) := by decide +kernel
theorem d6_51 : decode method_2_code 51 = .ok (.lcmp, 1) := by decide +kernel
theorem d6_52 : decode method_2_code 52 = .ok (.ifCond .ge 10, 3) := by decide +kernel
theorem d6_55 : decode method_2_code 55 = .ok (.ldc2_w 15, 3) := by decide +kernel
theorem d6_58 : decode method_2_code 58 = .ok (.lstore_n 3, 1) := by decide +kernel
theorem d6_59 : decode method_2_code 59 = .ok (.goto 53, 3) := by decide +kernel
theorem d6_62 : decode method_2_code 62 = .ok (.lload_n 0, 1) := by decide +kernel
theorem d6_63 : decode method_2_code 63 = .ok (.ldc2_w 17, 3) := by decide +kernel
theorem d6_66 : decode method_2_code 66 = .ok (.lcmp, 1) := by decide +kernel
theorem d6_67 : decode method_2_code 67 = .ok (.ifCond .ge 10, 3) := by decide +kernel
theorem d6_70 : decode method_2_code 70 = .ok (.ldc2_w 17, 3) := by decide +kernel
theorem d6_73 : decode method_2_code 73 = .ok (.lstore_n 3, 1) := by decide +kernel
theorem d6_74 : decode method_2_code 74 = .ok (.goto 38, 3) := by decide +kernel
theorem d6_77 : decode method_2_code 77 = .ok (.lload_n 0, 1) := by decide +kernel
theorem d6_78 : decode method_2_code 78 = .ok (.ldc2_w 19, 3) := by decide +kernel
theorem d6_81 : decode method_2_code 81 = .ok (.lcmp, 1) := by decide +kernel
theorem d6_82 : decode method_2_code 82 = .ok (.ifCond .ge 10, 3) := by decide +kernel
theorem d6_85 : decode method_2_code 85 = .ok (.ldc2_w 19, 3) := by decide +kernel
theorem d6_88 : decode method_2_code 88 = .ok (.lstore_n 3, 1) := by decide +kernel
theorem d6_89 : decode method_2_code 89 = .ok (.goto 23, 3) := by decide +kernel
theorem d6_92 : decode method_2_code 92 = .ok (.ldc2_w 19, 3) := by decide +kernel
theorem d6_95 : decode method_2_code 95 = .ok (.ldc2_w 13, 3) := by decide +kernel
theorem d6_98 : decode method_2_code 98 = .ok (.lload_n 0, 1) := by decide +kernel
theorem d6_99 : decode method_2_code 99 = .ok (.ldc2_w 19, 3) := by decide +kernel
theorem d6_102 : decode method_2_code 102 = .ok (.lsub, 1) := by decide +kernel
theorem d6_103 : decode method_2_code 103 = .ok (.ldc2_w 13, 3) := by decide +kernel
theorem d6_106 : decode method_2_code 106 = .ok (.ldiv, 1) := by decide +kernel
theorem d6_107 : decode method_2_code 107 = .ok (.lconst 1, 1) := by decide +kernel
theorem d6_108 : decode method_2_code 108 = .ok (.ladd, 1) := by decide +kernel
theorem d6_109 : decode method_2_code 109 = .ok (.lmul, 1) := by decide +kernel
theorem d6_110 : decode method_2_code 110 = .ok (.ladd, 1) := by decide +kernel
theorem d6_111 : decode method_2_code 111 = .ok (.lstore_n 3, 1) := by decide +kernel
theorem d6_112 : decode method_2_code 112 = .ok (.lload_n 3, 1) := by decide +kernel
theorem d6_113 : decode method_2_code 113 = .ok (.ldc2_w 11, 3) := by decide +kernel
theorem d6_116 : decode method_2_code 116 = .ok (.invokestatic 21, 3) := by decide +kernel
theorem d6_119 : decode method_2_code 119 = .ok (.lreturn, 1) := by decide +kernel
theorem own_pd5 : parseMethodDescriptor "(JZ)J" = some ⟨[.long, .boolean], some .long⟩ := by decide +kernel
theorem own_pn1 : plainName "com/example/troskel/troskel/service/RetransmissionTimerDueNanosPinLaw" = true := by first | (simp [plainName, overriddenIn]; done) | decide +kernel
def Q6 (Z : State) (u0 : Int64) (u1 : Int32) (h0 : Heap) (n0 : Nat) (v : Option Value) (h : Heap) (L : List Loc) : Prop := v = some (.long (own_eo u0 u1)) ∧ Fr n0 L ∧ h = h0
theorem ef_6 (m : MethodId) (x0 : Int64) (x1 : Int32) : entryFrame m #[(.long x0), (.int x1)] 5 = mkF m 0 #[.val (.long x0), .second, .val (.int x1), .unset, .unset] [] := by first | (simp [entryFrame, mkF, argsToLocals, Value.category]; done) | rfl
set_option maxRecDepth 65536 in
set_option maxHeartbeats 40000000 in
theorem rm6 (l : Launch) (Z : State) (a0 : Array Value) (hw : ∀ d ∈ tables_1, d.before a0 Z = true) (ws : List Jvm.Cond) (u0 : Int64) (u1 : Int32) (h0 : Heap) (n0 : Nat) (Z0 : n0 ≤ h0.size)  :
    MetFree l (⟨"com/example/troskel/troskel/service/RetransmissionTimerDueNanosPinLaw", "expectedOffset", "(JZ)J"⟩ : MethodName) (head1 (Jvm.Cond.code (⟨"com/example/troskel/troskel/service/RetransmissionTimerDueNanosPinLaw", "expectedOffset", "(JZ)J"⟩ : MethodName) method_2_code 5 (some .long) :: ws) ({ frames := 1, cells := 0, slots := 0, locals := 20 } : Room)) (fun a U => a = #[(.long u0), (.int u1)] ∧ Z.Warmed39 U.vm ∧ U.heap = h0) (fun _ _ _ _ _ => True) (fun _ U o U' => ∃ v L, o = .returned v ∧ Q6 Z u0 u1 h0 n0 v U'.heap L ∧ FrameEnd U o U' L ({ frames := 1, cells := 0, slots := 0, locals := 20 } : Room).cells ({ frames := 1, cells := 0, slots := 0, locals := 20 } : Room).slots) := by
  refine MetFree.of_bodySF (plainFor_of_name own_pn1) hisR ?_
  intro p e s m args below meth c s₁ Bd hml0 hP hK
  obtain ⟨rfl, hZ, hh⟩ := hP
  have hx := Bd.exec
  have hby := Bd.bytes
  have hml : c.maxLocals = 5 := hml0
  have hown : s.vm.findClass "com/example/troskel/troskel/service/RetransmissionTimerDueNanosPinLaw" = some m.cls := findClass_of_methodNamed Bd.named
  have hnm := (name_of_methodNamed Bd.named Bd.method).1
  have X0 : Stand p l e ({ frames := 1, cells := 0, slots := 0, locals := 20 } : Room) s m #[(.long u0), (.int u1)] below meth c s₁ [] 0 0 := Stand.of_body Bd
  have e0 : s₁.heap = h0 := by rw [← hh, Bd.state]; rfl
  have N0 := Fr.nil n0
  refine own_in ?_
  refine own_st (fun _ k => castTop (ef_6 m u0 u1) k) ?_
  have K0 : Keep h0 h0 [] := Keep.refl h0 []
  show own_Go _ _ _ _ (s₁.setTop (mkF m 0 #[.val (.long u0), .second, .val (.int u1), .unset, .unset] []))
  refine own_st (fun _ k => XS.lloadN X0.here hx rfl (hb hby d6_0) rfl k) ?_
  show own_Go _ _ _ _ (s₁.setTop (mkF m 1 #[.val (.long u0), .second, .val (.int u1), .unset, .unset] [(.long u0)]))
  refine own_st (fun _ k => X0.ldc2Long hx hown (mvT hZ (hw _ (List.mem_of_getElem? (i := 23) rfl))) (g := (mkF m 1 #[.val (.long u0), .second, .val (.int u1), .unset, .unset] [(.long u0)])) rfl (hb hby d6_1) _ k) ?_
  show own_Go _ _ _ _ (s₁.setTop (mkF m 4 #[.val (.long u0), .second, .val (.int u1), .unset, .unset] [(.long (500000000 : Int64)), (.long u0)]))
  refine own_st (fun _ k => XS.lcmp X0.here hx rfl (hb hby d6_4) rfl k) ?_
  show own_Go _ _ _ _ (s₁.setTop (mkF m 5 #[.val (.long u0), .second, .val (.int u1), .unset, .unset] [(.int (lcmpW u0 (500000000 : Int64)))]))
  by_cases hc14 : (lcmpW u0 (500000000 : Int64)) < (0 : Int32)
  · skip
    refine own_st (fun _ k => XS.ifYes X0.here hx rfl (pc0 := 5) (pc' := 16) rfl (hb hby d6_5) rfl ((if0 _ _).trans (tlt hc14).1) (by decide) (by decide) k) ?_
    show own_Go _ _ _ _ (s₁.setTop (mkF m 16 #[.val (.long u0), .second, .val (.int u1), .unset, .unset] []))
    refine own_st (fun _ k => X0.ldc2Long hx hown (mvT hZ (hw _ (List.mem_of_getElem? (i := 23) rfl))) (g := (mkF m 16 #[.val (.long u0), .second, .val (.int u1), .unset, .unset] [])) rfl (hb hby d6_16) _ k) ?_
    show own_Go _ _ _ _ (s₁.setTop (mkF m 19 #[.val (.long u0), .second, .val (.int u1), .unset, .unset] [(.long (500000000 : Int64))]))
    obtain ⟨fs, hr, hrun, hended, hW, hsame⟩ := X0.leave (v := some (.long (500000000 : Int64))) (fun h => by rw [Bd.returns] at h; cases h)
    refine own_out (X0.lreturnOut hx Bd.returns (hb hby d6_19) hr) ⟨hrun, hended, _, _, rfl, ?_, ⟨_, rfl⟩, hW, hsame.mono (by decide) (by decide)⟩
    show Q6 Z u0 u1 h0 n0 _ s₁.heap _
    have hv : own_eo u0 u1 = (500000000 : Int64) := by
      unfold own_eo
      rw [if_pos hc14]
    exact ⟨by rw [hv], N0, e0⟩
  · skip
    refine own_st (fun _ k => XS.ifNo X0.here hx rfl (hb hby d6_5) rfl ((if0 _ _).trans (flt hc14).1) k) ?_
    show own_Go _ _ _ _ (s₁.setTop (mkF m 8 #[.val (.long u0), .second, .val (.int u1), .unset, .unset] []))
    refine own_st (fun _ k => XS.lloadN X0.here hx rfl (hb hby d6_8) rfl k) ?_
    show own_Go _ _ _ _ (s₁.setTop (mkF m 9 #[.val (.long u0), .second, .val (.int u1), .unset, .unset] [(.long u0)]))
    refine own_st (fun _ k => X0.ldc2Long hx hown (mvT hZ (hw _ (List.mem_of_getElem? (i := 45) rfl))) (g := (mkF m 9 #[.val (.long u0), .second, .val (.int u1), .unset, .unset] [(.long u0)])) rfl (hb hby d6_9) _ k) ?_
    show own_Go _ _ _ _ (s₁.setTop (mkF m 12 #[.val (.long u0), .second, .val (.int u1), .unset, .unset] [(.long (32000000000 : Int64)), (.long u0)]))
    refine own_st (fun _ k => XS.lcmp X0.here hx rfl (hb hby d6_12) rfl k) ?_
    show own_Go _ _ _ _ (s₁.setTop (mkF m 13 #[.val (.long u0), .second, .val (.int u1), .unset, .unset] [(.int (lcmpW u0 (32000000000 : Int64)))]))
    by_cases hc15 : (lcmpW u0 (32000000000 : Int64)) < (0 : Int32)
    · skip
      refine own_st (fun _ k => XS.ifYes X0.here hx rfl (pc0 := 13) (pc' := 20) rfl (hb hby d6_13) rfl ((if0 _ _).trans (tlt hc15).1) (by decide) (by decide) k) ?_
      show own_Go _ _ _ _ (s₁.setTop (mkF m 20 #[.val (.long u0), .second, .val (.int u1), .unset, .unset] []))
      refine own_st (fun _ k => XS.iloadN X0.here hx rfl (hb hby d6_20) rfl k) ?_
      show own_Go _ _ _ _ (s₁.setTop (mkF m 21 #[.val (.long u0), .second, .val (.int u1), .unset, .unset] [(.int u1)]))
      by_cases hc16 : u1 = (0 : Int32)
      · skip
        refine own_st (fun _ k => XS.ifYes X0.here hx rfl (pc0 := 21) (pc' := 47) rfl (hb hby d6_21) rfl ((if0 _ _).trans (teq hc16).1) (by decide) (by decide) k) ?_
        show own_Go _ _ _ _ (s₁.setTop (mkF m 47 #[.val (.long u0), .second, .val (.int u1), .unset, .unset] []))
        refine own_st (fun _ k => XS.lloadN X0.here hx rfl (hb hby d6_47) rfl k) ?_
        show own_Go _ _ _ _ (s₁.setTop (mkF m 48 #[.val (.long u0), .second, .val (.int u1), .unset, .unset] [(.long u0)]))
        refine own_st (fun _ k => X0.ldc2Long hx hown (mvT hZ (hw _ (List.mem_of_getElem? (i := 54) rfl))) (g := (mkF m 48 #[.val (.long u0), .second, .val (.int u1), .unset, .unset] [(.long u0)])) rfl (hb hby d6_48) _ k) ?_
        show own_Go _ _ _ _ (s₁.setTop (mkF m 51 #[.val (.long u0), .second, .val (.int u1), .unset, .unset] [(.long (1500000000 : Int64)), (.long u0)]))
        refine own_st (fun _ k => XS.lcmp X0.here hx rfl (hb hby d6_51) rfl k) ?_
        show own_Go _ _ _ _ (s₁.setTop (mkF m 52 #[.val (.long u0), .second, .val (.int u1), .unset, .unset] [(.int (lcmpW u0 (1500000000 : Int64)))]))
        by_cases hc17 : (lcmpW u0 (1500000000 : Int64)) < (0 : Int32)
        · skip
          refine own_st (fun _ k => XS.ifNo X0.here hx rfl (hb hby d6_52) rfl ((if0 _ _).trans (tlt hc17).2.1) k) ?_
          show own_Go _ _ _ _ (s₁.setTop (mkF m 55 #[.val (.long u0), .second, .val (.int u1), .unset, .unset] []))
          refine own_st (fun _ k => X0.ldc2Long hx hown (mvT hZ (hw _ (List.mem_of_getElem? (i := 54) rfl))) (g := (mkF m 55 #[.val (.long u0), .second, .val (.int u1), .unset, .unset] [])) rfl (hb hby d6_55) _ k) ?_
          show own_Go _ _ _ _ (s₁.setTop (mkF m 58 #[.val (.long u0), .second, .val (.int u1), .unset, .unset] [(.long (1500000000 : Int64))]))
          refine own_st (fun _ k => XS.lstoreN X0.here hx rfl (hb hby d6_58) rfl (l' := #[.val (.long u0), .second, .val (.int u1), .val (.long (1500000000 : Int64)), .second]) rfl k) ?_
          show own_Go _ _ _ _ (s₁.setTop (mkF m 59 #[.val (.long u0), .second, .val (.int u1), .val (.long (1500000000 : Int64)), .second] []))
          refine own_st (fun _ k => XS.goto X0.here hx rfl (pc0 := 59) (pc' := 112) rfl (hb hby d6_59) (by decide) (by decide) k) ?_
          show own_Go _ _ _ _ (s₁.setTop (mkF m 112 #[.val (.long u0), .second, .val (.int u1), .val (.long (1500000000 : Int64)), .second] []))
          refine own_st (fun _ k => XS.lloadN X0.here hx rfl (hb hby d6_112) rfl k) ?_
          show own_Go _ _ _ _ (s₁.setTop (mkF m 113 #[.val (.long u0), .second, .val (.int u1), .val (.long (1500000000 : Int64)), .second] [(.long (1500000000 : Int64))]))
          refine own_st (fun _ k => X0.ldc2Long hx hown (mvT hZ (hw _ (List.mem_of_getElem? (i := 45) rfl))) (g := (mkF m 113 #[.val (.long u0), .second, .val (.int u1), .val (.long (1500000000 : Int64)), .second] [(.long (1500000000 : Int64))])) rfl (hb hby d6_113) _ k) ?_
          show own_Go _ _ _ _ (s₁.setTop (mkF m 116 #[.val (.long u0), .second, .val (.int u1), .val (.long (1500000000 : Int64)), .second] [(.long (32000000000 : Int64)), (.long (1500000000 : Int64))]))
          obtain ⟨_, _, ⟨T18, L18, k18, n18⟩, -, X18, ⟨Lc18, hQ18, l18, y18, z18⟩, st18⟩ := Jvm.LawKit.callS X0 hx (y := (⟨"java/lang/Math", "min", "(JJ)J"⟩ : MethodName)) hown (mvT hZ (hw _ (List.mem_of_getElem? (i := 48) rfl))) (mvT hZ (hw _ (List.mem_of_getElem? (i := 49) rfl))) (mvT hZ (hw _ (List.mem_of_getElem? (i := 50) rfl))) (mvT hZ (hw _ (List.mem_of_getElem? (i := 51) rfl))) (by decide) (backOf (W := 0) (rm8 l Z a0 hw [] (1500000000 : Int64) (32000000000 : Int64) h0 n0 Z0 ) hZ (hw _ (List.mem_of_getElem? (i := 51) rfl)) (hw _ (List.mem_of_getElem? (i := 50) rfl)) (by decide) (by decide)) (g := (mkF m 116 #[.val (.long u0), .second, .val (.int u1), .val (.long (1500000000 : Int64)), .second] [(.long (32000000000 : Int64)), (.long (1500000000 : Int64))])) rfl (by rw [hml]; rfl) (argsL := [(.long (1500000000 : Int64)), (.long (32000000000 : Int64))]) (rest := []) (lenOf own_pd0 rfl) rfl (by show 2 * 0 + _ ≤ _; exact Nat.le_of_eq rfl) (hb hby d6_116) (fun _ _ => ⟨rfl, e0, (by decide : 0 + 0 ≤ _), (by decide : 0 + 0 ≤ _)⟩)
          dsimp only [Pt.U, Pt.locs, Pt.cells, Pt.slots] at X18 l18 y18 z18 st18 hQ18
          rw [l18, y18, z18] at X18
          obtain ⟨rfl, Nq18, eq18⟩ := hQ18
          have N18 := Fr.app N0 Nq18
          refine own_st st18 ?_
          rw [show (own_mn (1500000000 : Int64) (32000000000 : Int64)) = (1500000000 : Int64) from by decide]
          show own_Go _ _ _ _ (T18.setTop (mkF m 119 #[.val (.long u0), .second, .val (.int u1), .val (.long (1500000000 : Int64)), .second] [(.long (1500000000 : Int64))]))
          obtain ⟨fs, hr, hrun, hended, hW, hsame⟩ := X18.leave (v := some (.long (1500000000 : Int64))) (fun h => by rw [Bd.returns] at h; cases h)
          refine own_out (X18.lreturnOut hx Bd.returns (hb hby d6_119) hr) ⟨hrun, hended, _, _, rfl, ?_, ⟨_, rfl⟩, hW, hsame.mono (by decide) (by decide)⟩
          show Q6 Z u0 u1 h0 n0 _ T18.heap _
          have hv : own_eo u0 u1 = (1500000000 : Int64) := by
            unfold own_eo
            rw [if_neg hc14, if_pos hc15, if_pos hc16, if_pos hc17]
          exact ⟨by rw [hv], N18, eq18⟩
        · skip
          refine own_st (fun _ k => XS.ifYes X0.here hx rfl (pc0 := 52) (pc' := 62) rfl (hb hby d6_52) rfl ((if0 _ _).trans (flt hc17).2.1) (by decide) (by decide) k) ?_
          show own_Go _ _ _ _ (s₁.setTop (mkF m 62 #[.val (.long u0), .second, .val (.int u1), .unset, .unset] []))
          refine own_st (fun _ k => XS.lloadN X0.here hx rfl (hb hby d6_62) rfl k) ?_
          show own_Go _ _ _ _ (s₁.setTop (mkF m 63 #[.val (.long u0), .second, .val (.int u1), .unset, .unset] [(.long u0)]))
          refine own_st (fun _ k => X0.ldc2Long hx hown (mvT hZ (hw _ (List.mem_of_getElem? (i := 55) rfl))) (g := (mkF m 63 #[.val (.long u0), .second, .val (.int u1), .unset, .unset] [(.long u0)])) rfl (hb hby d6_63) _ k) ?_
          show own_Go _ _ _ _ (s₁.setTop (mkF m 66 #[.val (.long u0), .second, .val (.int u1), .unset, .unset] [(.long (3500000000 : Int64)), (.long u0)]))
          refine own_st (fun _ k => XS.lcmp X0.here hx rfl (hb hby d6_66) rfl k) ?_
          show own_Go _ _ _ _ (s₁.setTop (mkF m 67 #[.val (.long u0), .second, .val (.int u1), .unset, .unset] [(.int (lcmpW u0 (3500000000 : Int64)))]))
          by_cases hc19 : (lcmpW u0 (3500000000 : Int64)) < (0 : Int32)
          · skip
            refine own_st (fun _ k => XS.ifNo X0.here hx rfl (hb hby d6_67) rfl ((if0 _ _).trans (tlt hc19).2.1) k) ?_
            show own_Go _ _ _ _ (s₁.setTop (mkF m 70 #[.val (.long u0), .second, .val (.int u1), .unset, .unset] []))
            refine own_st (fun _ k => X0.ldc2Long hx hown (mvT hZ (hw _ (List.mem_of_getElem? (i := 55) rfl))) (g := (mkF m 70 #[.val (.long u0), .second, .val (.int u1), .unset, .unset] [])) rfl (hb hby d6_70) _ k) ?_
            show own_Go _ _ _ _ (s₁.setTop (mkF m 73 #[.val (.long u0), .second, .val (.int u1), .unset, .unset] [(.long (3500000000 : Int64))]))
            refine own_st (fun _ k => XS.lstoreN X0.here hx rfl (hb hby d6_73) rfl (l' := #[.val (.long u0), .second, .val (.int u1), .val (.long (3500000000 : Int64)), .second]) rfl k) ?_
            show own_Go _ _ _ _ (s₁.setTop (mkF m 74 #[.val (.long u0), .second, .val (.int u1), .val (.long (3500000000 : Int64)), .second] []))
            refine own_st (fun _ k => XS.goto X0.here hx rfl (pc0 := 74) (pc' := 112) rfl (hb hby d6_74) (by decide) (by decide) k) ?_
            show own_Go _ _ _ _ (s₁.setTop (mkF m 112 #[.val (.long u0), .second, .val (.int u1), .val (.long (3500000000 : Int64)), .second] []))
            refine own_st (fun _ k => XS.lloadN X0.here hx rfl (hb hby d6_112) rfl k) ?_
            show own_Go _ _ _ _ (s₁.setTop (mkF m 113 #[.val (.long u0), .second, .val (.int u1), .val (.long (3500000000 : Int64)), .second] [(.long (3500000000 : Int64))]))
            refine own_st (fun _ k => X0.ldc2Long hx hown (mvT hZ (hw _ (List.mem_of_getElem? (i := 45) rfl))) (g := (mkF m 113 #[.val (.long u0), .second, .val (.int u1), .val (.long (3500000000 : Int64)), .second] [(.long (3500000000 : Int64))])) rfl (hb hby d6_113) _ k) ?_
            show own_Go _ _ _ _ (s₁.setTop (mkF m 116 #[.val (.long u0), .second, .val (.int u1), .val (.long (3500000000 : Int64)), .second] [(.long (32000000000 : Int64)), (.long (3500000000 : Int64))]))
            obtain ⟨_, _, ⟨T20, L20, k20, n20⟩, -, X20, ⟨Lc20, hQ20, l20, y20, z20⟩, st20⟩ := Jvm.LawKit.callS X0 hx (y := (⟨"java/lang/Math", "min", "(JJ)J"⟩ : MethodName)) hown (mvT hZ (hw _ (List.mem_of_getElem? (i := 48) rfl))) (mvT hZ (hw _ (List.mem_of_getElem? (i := 49) rfl))) (mvT hZ (hw _ (List.mem_of_getElem? (i := 50) rfl))) (mvT hZ (hw _ (List.mem_of_getElem? (i := 51) rfl))) (by decide) (backOf (W := 0) (rm8 l Z a0 hw [] (3500000000 : Int64) (32000000000 : Int64) h0 n0 Z0 ) hZ (hw _ (List.mem_of_getElem? (i := 51) rfl)) (hw _ (List.mem_of_getElem? (i := 50) rfl)) (by decide) (by decide)) (g := (mkF m 116 #[.val (.long u0), .second, .val (.int u1), .val (.long (3500000000 : Int64)), .second] [(.long (32000000000 : Int64)), (.long (3500000000 : Int64))])) rfl (by rw [hml]; rfl) (argsL := [(.long (3500000000 : Int64)), (.long (32000000000 : Int64))]) (rest := []) (lenOf own_pd0 rfl) rfl (by show 2 * 0 + _ ≤ _; exact Nat.le_of_eq rfl) (hb hby d6_116) (fun _ _ => ⟨rfl, e0, (by decide : 0 + 0 ≤ _), (by decide : 0 + 0 ≤ _)⟩)
            dsimp only [Pt.U, Pt.locs, Pt.cells, Pt.slots] at X20 l20 y20 z20 st20 hQ20
            rw [l20, y20, z20] at X20
            obtain ⟨rfl, Nq20, eq20⟩ := hQ20
            have N20 := Fr.app N0 Nq20
            refine own_st st20 ?_
            rw [show (own_mn (3500000000 : Int64) (32000000000 : Int64)) = (3500000000 : Int64) from by decide]
            show own_Go _ _ _ _ (T20.setTop (mkF m 119 #[.val (.long u0), .second, .val (.int u1), .val (.long (3500000000 : Int64)), .second] [(.long (3500000000 : Int64))]))
            obtain ⟨fs, hr, hrun, hended, hW, hsame⟩ := X20.leave (v := some (.long (3500000000 : Int64))) (fun h => by rw [Bd.returns] at h; cases h)
            refine own_out (X20.lreturnOut hx Bd.returns (hb hby d6_119) hr) ⟨hrun, hended, _, _, rfl, ?_, ⟨_, rfl⟩, hW, hsame.mono (by decide) (by decide)⟩
            show Q6 Z u0 u1 h0 n0 _ T20.heap _
            have hv : own_eo u0 u1 = (3500000000 : Int64) := by
              unfold own_eo
              rw [if_neg hc14, if_pos hc15, if_pos hc16, if_neg hc17, if_pos hc19]
            exact ⟨by rw [hv], N20, eq20⟩
          · skip
            refine own_st (fun _ k => XS.ifYes X0.here hx rfl (pc0 := 67) (pc' := 77) rfl (hb hby d6_67) rfl ((if0 _ _).trans (flt hc19).2.1) (by decide) (by decide) k) ?_
            show own_Go _ _ _ _ (s₁.setTop (mkF m 77 #[.val (.long u0), .second, .val (.int u1), .unset, .unset] []))
            refine own_st (fun _ k => XS.lloadN X0.here hx rfl (hb hby d6_77) rfl k) ?_
            show own_Go _ _ _ _ (s₁.setTop (mkF m 78 #[.val (.long u0), .second, .val (.int u1), .unset, .unset] [(.long u0)]))
            refine own_st (fun _ k => X0.ldc2Long hx hown (mvT hZ (hw _ (List.mem_of_getElem? (i := 56) rfl))) (g := (mkF m 78 #[.val (.long u0), .second, .val (.int u1), .unset, .unset] [(.long u0)])) rfl (hb hby d6_78) _ k) ?_
            show own_Go _ _ _ _ (s₁.setTop (mkF m 81 #[.val (.long u0), .second, .val (.int u1), .unset, .unset] [(.long (7500000000 : Int64)), (.long u0)]))
            refine own_st (fun _ k => XS.lcmp X0.here hx rfl (hb hby d6_81) rfl k) ?_
            show own_Go _ _ _ _ (s₁.setTop (mkF m 82 #[.val (.long u0), .second, .val (.int u1), .unset, .unset] [(.int (lcmpW u0 (7500000000 : Int64)))]))
            by_cases hc21 : (lcmpW u0 (7500000000 : Int64)) < (0 : Int32)
            · skip
              refine own_st (fun _ k => XS.ifNo X0.here hx rfl (hb hby d6_82) rfl ((if0 _ _).trans (tlt hc21).2.1) k) ?_
              show own_Go _ _ _ _ (s₁.setTop (mkF m 85 #[.val (.long u0), .second, .val (.int u1), .unset, .unset] []))
              refine own_st (fun _ k => X0.ldc2Long hx hown (mvT hZ (hw _ (List.mem_of_getElem? (i := 56) rfl))) (g := (mkF m 85 #[.val (.long u0), .second, .val (.int u1), .unset, .unset] [])) rfl (hb hby d6_85) _ k) ?_
              show own_Go _ _ _ _ (s₁.setTop (mkF m 88 #[.val (.long u0), .second, .val (.int u1), .unset, .unset] [(.long (7500000000 : Int64))]))
              refine own_st (fun _ k => XS.lstoreN X0.here hx rfl (hb hby d6_88) rfl (l' := #[.val (.long u0), .second, .val (.int u1), .val (.long (7500000000 : Int64)), .second]) rfl k) ?_
              show own_Go _ _ _ _ (s₁.setTop (mkF m 89 #[.val (.long u0), .second, .val (.int u1), .val (.long (7500000000 : Int64)), .second] []))
              refine own_st (fun _ k => XS.goto X0.here hx rfl (pc0 := 89) (pc' := 112) rfl (hb hby d6_89) (by decide) (by decide) k) ?_
              show own_Go _ _ _ _ (s₁.setTop (mkF m 112 #[.val (.long u0), .second, .val (.int u1), .val (.long (7500000000 : Int64)), .second] []))
              refine own_st (fun _ k => XS.lloadN X0.here hx rfl (hb hby d6_112) rfl k) ?_
              show own_Go _ _ _ _ (s₁.setTop (mkF m 113 #[.val (.long u0), .second, .val (.int u1), .val (.long (7500000000 : Int64)), .second] [(.long (7500000000 : Int64))]))
              refine own_st (fun _ k => X0.ldc2Long hx hown (mvT hZ (hw _ (List.mem_of_getElem? (i := 45) rfl))) (g := (mkF m 113 #[.val (.long u0), .second, .val (.int u1), .val (.long (7500000000 : Int64)), .second] [(.long (7500000000 : Int64))])) rfl (hb hby d6_113) _ k) ?_
              show own_Go _ _ _ _ (s₁.setTop (mkF m 116 #[.val (.long u0), .second, .val (.int u1), .val (.long (7500000000 : Int64)), .second] [(.long (32000000000 : Int64)), (.long (7500000000 : Int64))]))
              obtain ⟨_, _, ⟨T22, L22, k22, n22⟩, -, X22, ⟨Lc22, hQ22, l22, y22, z22⟩, st22⟩ := Jvm.LawKit.callS X0 hx (y := (⟨"java/lang/Math", "min", "(JJ)J"⟩ : MethodName)) hown (mvT hZ (hw _ (List.mem_of_getElem? (i := 48) rfl))) (mvT hZ (hw _ (List.mem_of_getElem? (i := 49) rfl))) (mvT hZ (hw _ (List.mem_of_getElem? (i := 50) rfl))) (mvT hZ (hw _ (List.mem_of_getElem? (i := 51) rfl))) (by decide) (backOf (W := 0) (rm8 l Z a0 hw [] (7500000000 : Int64) (32000000000 : Int64) h0 n0 Z0 ) hZ (hw _ (List.mem_of_getElem? (i := 51) rfl)) (hw _ (List.mem_of_getElem? (i := 50) rfl)) (by decide) (by decide)) (g := (mkF m 116 #[.val (.long u0), .second, .val (.int u1), .val (.long (7500000000 : Int64)), .second] [(.long (32000000000 : Int64)), (.long (7500000000 : Int64))])) rfl (by rw [hml]; rfl) (argsL := [(.long (7500000000 : Int64)), (.long (32000000000 : Int64))]) (rest := []) (lenOf own_pd0 rfl) rfl (by show 2 * 0 + _ ≤ _; exact Nat.le_of_eq rfl) (hb hby d6_116) (fun _ _ => ⟨rfl, e0, (by decide : 0 + 0 ≤ _), (by decide : 0 + 0 ≤ _)⟩)
              dsimp only [Pt.U, Pt.locs, Pt.cells, Pt.slots] at X22 l22 y22 z22 st22 hQ22
              rw [l22, y22, z22] at X22
              obtain ⟨rfl, Nq22, eq22⟩ := hQ22
              have N22 := Fr.app N0 Nq22
              refine own_st st22 ?_
              rw [show (own_mn (7500000000 : Int64) (32000000000 : Int64)) = (7500000000 : Int64) from by decide]
              show own_Go _ _ _ _ (T22.setTop (mkF m 119 #[.val (.long u0), .second, .val (.int u1), .val (.long (7500000000 : Int64)), .second] [(.long (7500000000 : Int64))]))
              obtain ⟨fs, hr, hrun, hended, hW, hsame⟩ := X22.leave (v := some (.long (7500000000 : Int64))) (fun h => by rw [Bd.returns] at h; cases h)
              refine own_out (X22.lreturnOut hx Bd.returns (hb hby d6_119) hr) ⟨hrun, hended, _, _, rfl, ?_, ⟨_, rfl⟩, hW, hsame.mono (by decide) (by decide)⟩
              show Q6 Z u0 u1 h0 n0 _ T22.heap _
              have hv : own_eo u0 u1 = (7500000000 : Int64) := by
                unfold own_eo
                rw [if_neg hc14, if_pos hc15, if_pos hc16, if_neg hc17, if_neg hc19, if_pos hc21]
              exact ⟨by rw [hv], N22, eq22⟩
            · skip
              refine own_st (fun _ k => XS.ifYes X0.here hx rfl (pc0 := 82) (pc' := 92) rfl (hb hby d6_82) rfl ((if0 _ _).trans (flt hc21).2.1) (by decide) (by decide) k) ?_
              show own_Go _ _ _ _ (s₁.setTop (mkF m 92 #[.val (.long u0), .second, .val (.int u1), .unset, .unset] []))
              refine own_st (fun _ k => X0.ldc2Long hx hown (mvT hZ (hw _ (List.mem_of_getElem? (i := 56) rfl))) (g := (mkF m 92 #[.val (.long u0), .second, .val (.int u1), .unset, .unset] [])) rfl (hb hby d6_92) _ k) ?_
              show own_Go _ _ _ _ (s₁.setTop (mkF m 95 #[.val (.long u0), .second, .val (.int u1), .unset, .unset] [(.long (7500000000 : Int64))]))
              refine own_st (fun _ k => X0.ldc2Long hx hown (mvT hZ (hw _ (List.mem_of_getElem? (i := 47) rfl))) (g := (mkF m 95 #[.val (.long u0), .second, .val (.int u1), .unset, .unset] [(.long (7500000000 : Int64))])) rfl (hb hby d6_95) _ k) ?_
              show own_Go _ _ _ _ (s₁.setTop (mkF m 98 #[.val (.long u0), .second, .val (.int u1), .unset, .unset] [(.long (4000000000 : Int64)), (.long (7500000000 : Int64))]))
              refine own_st (fun _ k => XS.lloadN X0.here hx rfl (hb hby d6_98) rfl k) ?_
              show own_Go _ _ _ _ (s₁.setTop (mkF m 99 #[.val (.long u0), .second, .val (.int u1), .unset, .unset] [(.long u0), (.long (4000000000 : Int64)), (.long (7500000000 : Int64))]))
              refine own_st (fun _ k => X0.ldc2Long hx hown (mvT hZ (hw _ (List.mem_of_getElem? (i := 56) rfl))) (g := (mkF m 99 #[.val (.long u0), .second, .val (.int u1), .unset, .unset] [(.long u0), (.long (4000000000 : Int64)), (.long (7500000000 : Int64))])) rfl (hb hby d6_99) _ k) ?_
              show own_Go _ _ _ _ (s₁.setTop (mkF m 102 #[.val (.long u0), .second, .val (.int u1), .unset, .unset] [(.long (7500000000 : Int64)), (.long u0), (.long (4000000000 : Int64)), (.long (7500000000 : Int64))]))
              refine own_st (fun _ k => XS.lsub X0.here hx rfl (hb hby d6_102) rfl k) ?_
              show own_Go _ _ _ _ (s₁.setTop (mkF m 103 #[.val (.long u0), .second, .val (.int u1), .unset, .unset] [(.long (u0 - (7500000000 : Int64))), (.long (4000000000 : Int64)), (.long (7500000000 : Int64))]))
              refine own_st (fun _ k => X0.ldc2Long hx hown (mvT hZ (hw _ (List.mem_of_getElem? (i := 47) rfl))) (g := (mkF m 103 #[.val (.long u0), .second, .val (.int u1), .unset, .unset] [(.long (u0 - (7500000000 : Int64))), (.long (4000000000 : Int64)), (.long (7500000000 : Int64))])) rfl (hb hby d6_103) _ k) ?_
              show own_Go _ _ _ _ (s₁.setTop (mkF m 106 #[.val (.long u0), .second, .val (.int u1), .unset, .unset] [(.long (4000000000 : Int64)), (.long (u0 - (7500000000 : Int64))), (.long (4000000000 : Int64)), (.long (7500000000 : Int64))]))
              refine own_st (fun _ k => XS.ldiv X0.here hx rfl (hb hby d6_106) rfl (by decide : ¬ ((4000000000 : Int64) = (0 : Int64))) k) ?_
              show own_Go _ _ _ _ (s₁.setTop (mkF m 107 #[.val (.long u0), .second, .val (.int u1), .unset, .unset] [(.long ((u0 - (7500000000 : Int64)) / (4000000000 : Int64))), (.long (4000000000 : Int64)), (.long (7500000000 : Int64))]))
              refine own_st (fun _ k => XS.lconst X0.here hx rfl (hb hby d6_107) k) ?_
              show own_Go _ _ _ _ (s₁.setTop (mkF m 108 #[.val (.long u0), .second, .val (.int u1), .unset, .unset] [(.long (1 : Int64)), (.long ((u0 - (7500000000 : Int64)) / (4000000000 : Int64))), (.long (4000000000 : Int64)), (.long (7500000000 : Int64))]))
              refine own_st (fun _ k => XS.ladd X0.here hx rfl (hb hby d6_108) rfl k) ?_
              show own_Go _ _ _ _ (s₁.setTop (mkF m 109 #[.val (.long u0), .second, .val (.int u1), .unset, .unset] [(.long (((u0 - (7500000000 : Int64)) / (4000000000 : Int64)) + (1 : Int64))), (.long (4000000000 : Int64)), (.long (7500000000 : Int64))]))
              refine own_st (fun _ k => XS.lmul X0.here hx rfl (hb hby d6_109) rfl k) ?_
              show own_Go _ _ _ _ (s₁.setTop (mkF m 110 #[.val (.long u0), .second, .val (.int u1), .unset, .unset] [(.long ((4000000000 : Int64) * (((u0 - (7500000000 : Int64)) / (4000000000 : Int64)) + (1 : Int64)))), (.long (7500000000 : Int64))]))
              refine own_st (fun _ k => XS.ladd X0.here hx rfl (hb hby d6_110) rfl k) ?_
              show own_Go _ _ _ _ (s₁.setTop (mkF m 111 #[.val (.long u0), .second, .val (.int u1), .unset, .unset] [(.long ((7500000000 : Int64) + ((4000000000 : Int64) * (((u0 - (7500000000 : Int64)) / (4000000000 : Int64)) + (1 : Int64)))))]))
              refine own_st (fun _ k => XS.lstoreN X0.here hx rfl (hb hby d6_111) rfl (l' := #[.val (.long u0), .second, .val (.int u1), .val (.long ((7500000000 : Int64) + ((4000000000 : Int64) * (((u0 - (7500000000 : Int64)) / (4000000000 : Int64)) + (1 : Int64))))), .second]) rfl k) ?_
              show own_Go _ _ _ _ (s₁.setTop (mkF m 112 #[.val (.long u0), .second, .val (.int u1), .val (.long ((7500000000 : Int64) + ((4000000000 : Int64) * (((u0 - (7500000000 : Int64)) / (4000000000 : Int64)) + (1 : Int64))))), .second] []))
              refine own_st (fun _ k => XS.lloadN X0.here hx rfl (hb hby d6_112) rfl k) ?_
              show own_Go _ _ _ _ (s₁.setTop (mkF m 113 #[.val (.long u0), .second, .val (.int u1), .val (.long ((7500000000 : Int64) + ((4000000000 : Int64) * (((u0 - (7500000000 : Int64)) / (4000000000 : Int64)) + (1 : Int64))))), .second] [(.long ((7500000000 : Int64) + ((4000000000 : Int64) * (((u0 - (7500000000 : Int64)) / (4000000000 : Int64)) + (1 : Int64)))))]))
              refine own_st (fun _ k => X0.ldc2Long hx hown (mvT hZ (hw _ (List.mem_of_getElem? (i := 45) rfl))) (g := (mkF m 113 #[.val (.long u0), .second, .val (.int u1), .val (.long ((7500000000 : Int64) + ((4000000000 : Int64) * (((u0 - (7500000000 : Int64)) / (4000000000 : Int64)) + (1 : Int64))))), .second] [(.long ((7500000000 : Int64) + ((4000000000 : Int64) * (((u0 - (7500000000 : Int64)) / (4000000000 : Int64)) + (1 : Int64)))))])) rfl (hb hby d6_113) _ k) ?_
              show own_Go _ _ _ _ (s₁.setTop (mkF m 116 #[.val (.long u0), .second, .val (.int u1), .val (.long ((7500000000 : Int64) + ((4000000000 : Int64) * (((u0 - (7500000000 : Int64)) / (4000000000 : Int64)) + (1 : Int64))))), .second] [(.long (32000000000 : Int64)), (.long ((7500000000 : Int64) + ((4000000000 : Int64) * (((u0 - (7500000000 : Int64)) / (4000000000 : Int64)) + (1 : Int64)))))]))
              obtain ⟨_, _, ⟨T23, L23, k23, n23⟩, -, X23, ⟨Lc23, hQ23, l23, y23, z23⟩, st23⟩ := Jvm.LawKit.callS X0 hx (y := (⟨"java/lang/Math", "min", "(JJ)J"⟩ : MethodName)) hown (mvT hZ (hw _ (List.mem_of_getElem? (i := 48) rfl))) (mvT hZ (hw _ (List.mem_of_getElem? (i := 49) rfl))) (mvT hZ (hw _ (List.mem_of_getElem? (i := 50) rfl))) (mvT hZ (hw _ (List.mem_of_getElem? (i := 51) rfl))) (by decide) (backOf (W := 0) (rm8 l Z a0 hw [] ((7500000000 : Int64) + ((4000000000 : Int64) * (((u0 - (7500000000 : Int64)) / (4000000000 : Int64)) + (1 : Int64)))) (32000000000 : Int64) h0 n0 Z0 ) hZ (hw _ (List.mem_of_getElem? (i := 51) rfl)) (hw _ (List.mem_of_getElem? (i := 50) rfl)) (by decide) (by decide)) (g := (mkF m 116 #[.val (.long u0), .second, .val (.int u1), .val (.long ((7500000000 : Int64) + ((4000000000 : Int64) * (((u0 - (7500000000 : Int64)) / (4000000000 : Int64)) + (1 : Int64))))), .second] [(.long (32000000000 : Int64)), (.long ((7500000000 : Int64) + ((4000000000 : Int64) * (((u0 - (7500000000 : Int64)) / (4000000000 : Int64)) + (1 : Int64)))))])) rfl (by rw [hml]; rfl) (argsL := [(.long ((7500000000 : Int64) + ((4000000000 : Int64) * (((u0 - (7500000000 : Int64)) / (4000000000 : Int64)) + (1 : Int64))))), (.long (32000000000 : Int64))]) (rest := []) (lenOf own_pd0 rfl) rfl (by show 2 * 0 + _ ≤ _; exact Nat.le_of_eq rfl) (hb hby d6_116) (fun _ _ => ⟨rfl, e0, (by decide : 0 + 0 ≤ _), (by decide : 0 + 0 ≤ _)⟩)
              dsimp only [Pt.U, Pt.locs, Pt.cells, Pt.slots] at X23 l23 y23 z23 st23 hQ23
              rw [l23, y23, z23] at X23
              obtain ⟨rfl, Nq23, eq23⟩ := hQ23
              have N23 := Fr.app N0 Nq23
              refine own_st st23 ?_
              show own_Go _ _ _ _ (T23.setTop (mkF m 119 #[.val (.long u0), .second, .val (.int u1), .val (.long ((7500000000 : Int64) + ((4000000000 : Int64) * (((u0 - (7500000000 : Int64)) / (4000000000 : Int64)) + (1 : Int64))))), .second] [(.long (own_mn ((7500000000 : Int64) + ((4000000000 : Int64) * (((u0 - (7500000000 : Int64)) / (4000000000 : Int64)) + (1 : Int64)))) (32000000000 : Int64)))]))
              obtain ⟨fs, hr, hrun, hended, hW, hsame⟩ := X23.leave (v := some (.long (own_mn ((7500000000 : Int64) + ((4000000000 : Int64) * (((u0 - (7500000000 : Int64)) / (4000000000 : Int64)) + (1 : Int64)))) (32000000000 : Int64)))) (fun h => by rw [Bd.returns] at h; cases h)
              refine own_out (X23.lreturnOut hx Bd.returns (hb hby d6_119) hr) ⟨hrun, hended, _, _, rfl, ?_, ⟨_, rfl⟩, hW, hsame.mono (by decide) (by decide)⟩
              show Q6 Z u0 u1 h0 n0 _ T23.heap _
              have hv : own_eo u0 u1 = (own_mn ((7500000000 : Int64) + ((4000000000 : Int64) * (((u0 - (7500000000 : Int64)) / (4000000000 : Int64)) + (1 : Int64)))) (32000000000 : Int64)) := by
                unfold own_eo
                rw [if_neg hc14, if_pos hc15, if_pos hc16, if_neg hc17, if_neg hc19, if_neg hc21]
              exact ⟨by rw [hv], N23, eq23⟩
      · skip
        refine own_st (fun _ k => XS.ifNo X0.here hx rfl (hb hby d6_21) rfl ((if0 _ _).trans (feq hc16).1) k) ?_
        show own_Go _ _ _ _ (s₁.setTop (mkF m 24 #[.val (.long u0), .second, .val (.int u1), .unset, .unset] []))
        refine own_st (fun _ k => X0.ldc2Long hx hown (mvT hZ (hw _ (List.mem_of_getElem? (i := 23) rfl))) (g := (mkF m 24 #[.val (.long u0), .second, .val (.int u1), .unset, .unset] [])) rfl (hb hby d6_24) _ k) ?_
        show own_Go _ _ _ _ (s₁.setTop (mkF m 27 #[.val (.long u0), .second, .val (.int u1), .unset, .unset] [(.long (500000000 : Int64))]))
        refine own_st (fun _ k => X0.ldc2Long hx hown (mvT hZ (hw _ (List.mem_of_getElem? (i := 47) rfl))) (g := (mkF m 27 #[.val (.long u0), .second, .val (.int u1), .unset, .unset] [(.long (500000000 : Int64))])) rfl (hb hby d6_27) _ k) ?_
        show own_Go _ _ _ _ (s₁.setTop (mkF m 30 #[.val (.long u0), .second, .val (.int u1), .unset, .unset] [(.long (4000000000 : Int64)), (.long (500000000 : Int64))]))
        refine own_st (fun _ k => XS.lloadN X0.here hx rfl (hb hby d6_30) rfl k) ?_
        show own_Go _ _ _ _ (s₁.setTop (mkF m 31 #[.val (.long u0), .second, .val (.int u1), .unset, .unset] [(.long u0), (.long (4000000000 : Int64)), (.long (500000000 : Int64))]))
        refine own_st (fun _ k => X0.ldc2Long hx hown (mvT hZ (hw _ (List.mem_of_getElem? (i := 23) rfl))) (g := (mkF m 31 #[.val (.long u0), .second, .val (.int u1), .unset, .unset] [(.long u0), (.long (4000000000 : Int64)), (.long (500000000 : Int64))])) rfl (hb hby d6_31) _ k) ?_
        show own_Go _ _ _ _ (s₁.setTop (mkF m 34 #[.val (.long u0), .second, .val (.int u1), .unset, .unset] [(.long (500000000 : Int64)), (.long u0), (.long (4000000000 : Int64)), (.long (500000000 : Int64))]))
        refine own_st (fun _ k => XS.lsub X0.here hx rfl (hb hby d6_34) rfl k) ?_
        show own_Go _ _ _ _ (s₁.setTop (mkF m 35 #[.val (.long u0), .second, .val (.int u1), .unset, .unset] [(.long (u0 - (500000000 : Int64))), (.long (4000000000 : Int64)), (.long (500000000 : Int64))]))
        refine own_st (fun _ k => X0.ldc2Long hx hown (mvT hZ (hw _ (List.mem_of_getElem? (i := 47) rfl))) (g := (mkF m 35 #[.val (.long u0), .second, .val (.int u1), .unset, .unset] [(.long (u0 - (500000000 : Int64))), (.long (4000000000 : Int64)), (.long (500000000 : Int64))])) rfl (hb hby d6_35) _ k) ?_
        show own_Go _ _ _ _ (s₁.setTop (mkF m 38 #[.val (.long u0), .second, .val (.int u1), .unset, .unset] [(.long (4000000000 : Int64)), (.long (u0 - (500000000 : Int64))), (.long (4000000000 : Int64)), (.long (500000000 : Int64))]))
        refine own_st (fun _ k => XS.ldiv X0.here hx rfl (hb hby d6_38) rfl (by decide : ¬ ((4000000000 : Int64) = (0 : Int64))) k) ?_
        show own_Go _ _ _ _ (s₁.setTop (mkF m 39 #[.val (.long u0), .second, .val (.int u1), .unset, .unset] [(.long ((u0 - (500000000 : Int64)) / (4000000000 : Int64))), (.long (4000000000 : Int64)), (.long (500000000 : Int64))]))
        refine own_st (fun _ k => XS.lconst X0.here hx rfl (hb hby d6_39) k) ?_
        show own_Go _ _ _ _ (s₁.setTop (mkF m 40 #[.val (.long u0), .second, .val (.int u1), .unset, .unset] [(.long (1 : Int64)), (.long ((u0 - (500000000 : Int64)) / (4000000000 : Int64))), (.long (4000000000 : Int64)), (.long (500000000 : Int64))]))
        refine own_st (fun _ k => XS.ladd X0.here hx rfl (hb hby d6_40) rfl k) ?_
        show own_Go _ _ _ _ (s₁.setTop (mkF m 41 #[.val (.long u0), .second, .val (.int u1), .unset, .unset] [(.long (((u0 - (500000000 : Int64)) / (4000000000 : Int64)) + (1 : Int64))), (.long (4000000000 : Int64)), (.long (500000000 : Int64))]))
        refine own_st (fun _ k => XS.lmul X0.here hx rfl (hb hby d6_41) rfl k) ?_
        show own_Go _ _ _ _ (s₁.setTop (mkF m 42 #[.val (.long u0), .second, .val (.int u1), .unset, .unset] [(.long ((4000000000 : Int64) * (((u0 - (500000000 : Int64)) / (4000000000 : Int64)) + (1 : Int64)))), (.long (500000000 : Int64))]))
        refine own_st (fun _ k => XS.ladd X0.here hx rfl (hb hby d6_42) rfl k) ?_
        show own_Go _ _ _ _ (s₁.setTop (mkF m 43 #[.val (.long u0), .second, .val (.int u1), .unset, .unset] [(.long ((500000000 : Int64) + ((4000000000 : Int64) * (((u0 - (500000000 : Int64)) / (4000000000 : Int64)) + (1 : Int64)))))]))
        refine own_st (fun _ k => XS.lstoreN X0.here hx rfl (hb hby d6_43) rfl (l' := #[.val (.long u0), .second, .val (.int u1), .val (.long ((500000000 : Int64) + ((4000000000 : Int64) * (((u0 - (500000000 : Int64)) / (4000000000 : Int64)) + (1 : Int64))))), .second]) rfl k) ?_
        show own_Go _ _ _ _ (s₁.setTop (mkF m 44 #[.val (.long u0), .second, .val (.int u1), .val (.long ((500000000 : Int64) + ((4000000000 : Int64) * (((u0 - (500000000 : Int64)) / (4000000000 : Int64)) + (1 : Int64))))), .second] []))
        refine own_st (fun _ k => XS.goto X0.here hx rfl (pc0 := 44) (pc' := 112) rfl (hb hby d6_44) (by decide) (by decide) k) ?_
        show own_Go _ _ _ _ (s₁.setTop (mkF m 112 #[.val (.long u0), .second, .val (.int u1), .val (.long ((500000000 : Int64) + ((4000000000 : Int64) * (((u0 - (500000000 : Int64)) / (4000000000 : Int64)) + (1 : Int64))))), .second] []))
        refine own_st (fun _ k => XS.lloadN X0.here hx rfl (hb hby d6_112) rfl k) ?_
        show own_Go _ _ _ _ (s₁.setTop (mkF m 113 #[.val (.long u0), .second, .val (.int u1), .val (.long ((500000000 : Int64) + ((4000000000 : Int64) * (((u0 - (500000000 : Int64)) / (4000000000 : Int64)) + (1 : Int64))))), .second] [(.long ((500000000 : Int64) + ((4000000000 : Int64) * (((u0 - (500000000 : Int64)) / (4000000000 : Int64)) + (1 : Int64)))))]))
        refine own_st (fun _ k => X0.ldc2Long hx hown (mvT hZ (hw _ (List.mem_of_getElem? (i := 45) rfl))) (g := (mkF m 113 #[.val (.long u0), .second, .val (.int u1), .val (.long ((500000000 : Int64) + ((4000000000 : Int64) * (((u0 - (500000000 : Int64)) / (4000000000 : Int64)) + (1 : Int64))))), .second] [(.long ((500000000 : Int64) + ((4000000000 : Int64) * (((u0 - (500000000 : Int64)) / (4000000000 : Int64)) + (1 : Int64)))))])) rfl (hb hby d6_113) _ k) ?_
        show own_Go _ _ _ _ (s₁.setTop (mkF m 116 #[.val (.long u0), .second, .val (.int u1), .val (.long ((500000000 : Int64) + ((4000000000 : Int64) * (((u0 - (500000000 : Int64)) / (4000000000 : Int64)) + (1 : Int64))))), .second] [(.long (32000000000 : Int64)), (.long ((500000000 : Int64) + ((4000000000 : Int64) * (((u0 - (500000000 : Int64)) / (4000000000 : Int64)) + (1 : Int64)))))]))
        obtain ⟨_, _, ⟨T24, L24, k24, n24⟩, -, X24, ⟨Lc24, hQ24, l24, y24, z24⟩, st24⟩ := Jvm.LawKit.callS X0 hx (y := (⟨"java/lang/Math", "min", "(JJ)J"⟩ : MethodName)) hown (mvT hZ (hw _ (List.mem_of_getElem? (i := 48) rfl))) (mvT hZ (hw _ (List.mem_of_getElem? (i := 49) rfl))) (mvT hZ (hw _ (List.mem_of_getElem? (i := 50) rfl))) (mvT hZ (hw _ (List.mem_of_getElem? (i := 51) rfl))) (by decide) (backOf (W := 0) (rm8 l Z a0 hw [] ((500000000 : Int64) + ((4000000000 : Int64) * (((u0 - (500000000 : Int64)) / (4000000000 : Int64)) + (1 : Int64)))) (32000000000 : Int64) h0 n0 Z0 ) hZ (hw _ (List.mem_of_getElem? (i := 51) rfl)) (hw _ (List.mem_of_getElem? (i := 50) rfl)) (by decide) (by decide)) (g := (mkF m 116 #[.val (.long u0), .second, .val (.int u1), .val (.long ((500000000 : Int64) + ((4000000000 : Int64) * (((u0 - (500000000 : Int64)) / (4000000000 : Int64)) + (1 : Int64))))), .second] [(.long (32000000000 : Int64)), (.long ((500000000 : Int64) + ((4000000000 : Int64) * (((u0 - (500000000 : Int64)) / (4000000000 : Int64)) + (1 : Int64)))))])) rfl (by rw [hml]; rfl) (argsL := [(.long ((500000000 : Int64) + ((4000000000 : Int64) * (((u0 - (500000000 : Int64)) / (4000000000 : Int64)) + (1 : Int64))))), (.long (32000000000 : Int64))]) (rest := []) (lenOf own_pd0 rfl) rfl (by show 2 * 0 + _ ≤ _; exact Nat.le_of_eq rfl) (hb hby d6_116) (fun _ _ => ⟨rfl, e0, (by decide : 0 + 0 ≤ _), (by decide : 0 + 0 ≤ _)⟩)
        dsimp only [Pt.U, Pt.locs, Pt.cells, Pt.slots] at X24 l24 y24 z24 st24 hQ24
        rw [l24, y24, z24] at X24
        obtain ⟨rfl, Nq24, eq24⟩ := hQ24
        have N24 := Fr.app N0 Nq24
        refine own_st st24 ?_
        show own_Go _ _ _ _ (T24.setTop (mkF m 119 #[.val (.long u0), .second, .val (.int u1), .val (.long ((500000000 : Int64) + ((4000000000 : Int64) * (((u0 - (500000000 : Int64)) / (4000000000 : Int64)) + (1 : Int64))))), .second] [(.long (own_mn ((500000000 : Int64) + ((4000000000 : Int64) * (((u0 - (500000000 : Int64)) / (4000000000 : Int64)) + (1 : Int64)))) (32000000000 : Int64)))]))
        obtain ⟨fs, hr, hrun, hended, hW, hsame⟩ := X24.leave (v := some (.long (own_mn ((500000000 : Int64) + ((4000000000 : Int64) * (((u0 - (500000000 : Int64)) / (4000000000 : Int64)) + (1 : Int64)))) (32000000000 : Int64)))) (fun h => by rw [Bd.returns] at h; cases h)
        refine own_out (X24.lreturnOut hx Bd.returns (hb hby d6_119) hr) ⟨hrun, hended, _, _, rfl, ?_, ⟨_, rfl⟩, hW, hsame.mono (by decide) (by decide)⟩
        show Q6 Z u0 u1 h0 n0 _ T24.heap _
        have hv : own_eo u0 u1 = (own_mn ((500000000 : Int64) + ((4000000000 : Int64) * (((u0 - (500000000 : Int64)) / (4000000000 : Int64)) + (1 : Int64)))) (32000000000 : Int64)) := by
          unfold own_eo
          rw [if_neg hc14, if_pos hc15, if_neg hc16]
        exact ⟨by rw [hv], N24, eq24⟩
    · skip
      refine own_st (fun _ k => XS.ifNo X0.here hx rfl (hb hby d6_13) rfl ((if0 _ _).trans (flt hc15).1) k) ?_
      show own_Go _ _ _ _ (s₁.setTop (mkF m 16 #[.val (.long u0), .second, .val (.int u1), .unset, .unset] []))
      refine own_st (fun _ k => X0.ldc2Long hx hown (mvT hZ (hw _ (List.mem_of_getElem? (i := 23) rfl))) (g := (mkF m 16 #[.val (.long u0), .second, .val (.int u1), .unset, .unset] [])) rfl (hb hby d6_16) _ k) ?_
      show own_Go _ _ _ _ (s₁.setTop (mkF m 19 #[.val (.long u0), .second, .val (.int u1), .unset, .unset] [(.long (500000000 : Int64))]))
      obtain ⟨fs, hr, hrun, hended, hW, hsame⟩ := X0.leave (v := some (.long (500000000 : Int64))) (fun h => by rw [Bd.returns] at h; cases h)
      refine own_out (X0.lreturnOut hx Bd.returns (hb hby d6_19) hr) ⟨hrun, hended, _, _, rfl, ?_, ⟨_, rfl⟩, hW, hsame.mono (by decide) (by decide)⟩
      show Q6 Z u0 u1 h0 n0 _ s₁.heap _
      have hv : own_eo u0 u1 = (500000000 : Int64) := by
        unfold own_eo
        rw [if_neg hc14, if_neg hc15]
      exact ⟨by rw [hv], N0, e0⟩
theorem own_sd (s d k : Int64) (h : -1099511627776 < d.toInt ∧ d.toInt < 1099511627776) (hk : 0 ≤ k.toInt ∧ k.toInt < 1099511627776) : ((s + d) - (s + k)).toInt = d.toInt - k.toInt := by
  have h1 := c_ladd s d
  have h2 := c_ladd s k
  have h3 := c_lsub (s + d) (s + k)
  have r3 := rng64 ((s + d) - (s + k))
  omega
def own_rg (k : Int64) : Prop := -40000000000 < k.toInt ∧ k.toInt < 40000000000
theorem own_lt (s d k : Int64) (h : own_rg d) (hk : 0 ≤ k.toInt ∧ k.toInt < 1099511627776) : (lcmpW ((s + d) - (s + k)) (0 : Int64)) < (0 : Int32) ↔ d.toInt < k.toInt := by
  rw [lw_lt, Int64.lt_iff_toInt_lt, own_sd s d k (by unfold own_rg at h; omega) hk]
  simp only [Int64.reduceToInt]
  omega
theorem own_toz (s d : Int64) (h : own_rg d) : own_to (s + d) (s + (32000000000 : Int64)) = (0 : Int32) ↔ d.toInt < 32000000000 := by
  unfold own_to
  have q := own_lt s d 32000000000 h (by decide)
  simp only [Int64.reduceToInt] at q
  by_cases c : (lcmpW ((s + d) - (s + (32000000000 : Int64))) (0 : Int64)) < (0 : Int32)
  · rw [if_pos c]; exact ⟨fun _ => q.mp c, fun _ => rfl⟩
  · rw [if_neg c]; exact ⟨fun z => absurd z (by decide), fun z => absurd (q.mpr z) c⟩
def own_nx0 (u0 u1 : Int64) : Int64 := (if (own_to (u0 + u1) (u0 + (32000000000 : Int64))) = (0 : Int32) then (if (lcmpW ((u0 + u1) - (u0 + (500000000 : Int64))) (0 : Int64)) < (0 : Int32) then (u0 + (500000000 : Int64)) else (if (lcmpW ((u0 + u1) - (u0 + (1500000000 : Int64))) (0 : Int64)) < (0 : Int32) then (u0 + (1500000000 : Int64)) else (if (lcmpW ((u0 + u1) - (u0 + (3500000000 : Int64))) (0 : Int64)) < (0 : Int32) then (u0 + (3500000000 : Int64)) else (if (lcmpW ((u0 + u1) - (u0 + (7500000000 : Int64))) (0 : Int64)) < (0 : Int32) then (u0 + (7500000000 : Int64)) else (if (lcmpW ((u0 + u1) - (u0 + (11500000000 : Int64))) (0 : Int64)) < (0 : Int32) then (u0 + (11500000000 : Int64)) else (if (lcmpW ((u0 + u1) - (u0 + (15500000000 : Int64))) (0 : Int64)) < (0 : Int32) then (u0 + (15500000000 : Int64)) else (if (lcmpW ((u0 + u1) - (u0 + (19500000000 : Int64))) (0 : Int64)) < (0 : Int32) then (u0 + (19500000000 : Int64)) else (if (lcmpW ((u0 + u1) - (u0 + (23500000000 : Int64))) (0 : Int64)) < (0 : Int32) then (u0 + (23500000000 : Int64)) else (if (lcmpW ((u0 + u1) - (u0 + (27500000000 : Int64))) (0 : Int64)) < (0 : Int32) then (u0 + (27500000000 : Int64)) else (if (lcmpW ((u0 + u1) - (u0 + (31500000000 : Int64))) (0 : Int64)) < (0 : Int32) then (u0 + (31500000000 : Int64)) else (u0 + (35500000000 : Int64)))))))))))) else (u0 + (500000000 : Int64)))
theorem d4_0 : decode prog_49_method_4_code 0 = .ok (.aload_n 0, 1) := by decide +kernel
theorem d4_1 : decode prog_49_method_4_code 1 = .ok (.lload_n 1, 1) := by decide +kernel
theorem d4_2 : decode prog_49_method_4_code 2 = .ok (.invokevirtual 23, 3) := by decide +kernel
theorem d4_5 : decode prog_49_method_4_code 5 = .ok (.ifCond .ne 14, 3) := by decide +kernel
theorem d4_8 : decode prog_49_method_4_code 8 = .ok (.lload_n 1, 1) := by decide +kernel
theorem d4_9 : decode prog_49_method_4_code 9 = .ok (.aload_n 0, 1) := by decide +kernel
theorem d4_10 : decode prog_49_method_4_code 10 = .ok (.getfield 20, 3) := by decide +kernel
theorem d4_13 : decode prog_49_method_4_code 13 = .ok (.lsub, 1) := by decide +kernel
theorem d4_14 : decode prog_49_method_4_code 14 = .ok (.lconst 0, 1) := by decide +kernel
theorem d4_15 : decode prog_49_method_4_code 15 = .ok (.lcmp, 1) := by decide +kernel
theorem d4_16 : decode prog_49_method_4_code 16 = .ok (.ifCond .ge 5, 3) := by decide +kernel
theorem d4_19 : decode prog_49_method_4_code 19 = .ok (.iconst 0, 1) := by decide +kernel
theorem d4_20 : decode prog_49_method_4_code 20 = .ok (.ireturn, 1) := by decide +kernel
theorem d4_21 : decode prog_49_method_4_code 21 = .ok (.lload_n 1, 1) := by decide +kernel
theorem d4_22 : decode prog_49_method_4_code 22 = .ok (.aload_n 0, 1) := by decide +kernel
theorem d4_23 : decode prog_49_method_4_code 23 = .ok (.getfield 20, 3) := by decide +kernel
theorem d4_26 : decode prog_49_method_4_code 26 = .ok (.lsub, 1) := by decide +kernel
theorem d4_27 : decode prog_49_method_4_code 27 = .ok (.lconst 0, 1) := by decide +kernel
theorem d4_28 : decode prog_49_method_4_code 28 = .ok (.lcmp, 1) := by decide +kernel
theorem d4_29 : decode prog_49_method_4_code 29 = .ok (.ifCond .lt 50, 3) := by decide +kernel
theorem d4_32 : decode prog_49_method_4_code 32 = .ok (.aload_n 0, 1) := by decide +kernel
theorem d4_33 : decode prog_49_method_4_code 33 = .ok (.aload_n 0, 1) := by decide +kernel
theorem d4_34 : decode prog_49_method_4_code 34 = .ok (.getfield 27, 3) := by decide +kernel
theorem d4_37 : decode prog_49_method_4_code 37 = .ok (.ifCond .eq 9, 3) := by decide +kernel
theorem d4_40 : decode prog_49_method_4_code 40 = .ok (.ldc2_w 31, 3) := by decide +kernel
theorem d4_43 : decode prog_49_method_4_code 43 = .ok (.goto 17, 3) := by decide +kernel
theorem d4_46 : decode prog_49_method_4_code 46 = .ok (.ldc2_w 33, 3) := by decide +kernel
theorem d4_49 : decode prog_49_method_4_code 49 = .ok (.aload_n 0, 1) := by decide +kernel
theorem d4_50 : decode prog_49_method_4_code 50 = .ok (.getfield 11, 3) := by decide +kernel
theorem d4_53 : decode prog_49_method_4_code 53 = .ok (.lmul, 1) := by decide +kernel
theorem d4_54 : decode prog_49_method_4_code 54 = .ok (.ldc2_w 31, 3) := by decide +kernel
theorem d4_57 : decode prog_49_method_4_code 57 = .ok (.invokestatic 35, 3) := by decide +kernel
theorem d4_60 : decode prog_49_method_4_code 60 = .ok (.putfield 11, 3) := by decide +kernel
theorem d4_63 : decode prog_49_method_4_code 63 = .ok (.aload_n 0, 1) := by decide +kernel
theorem d4_64 : decode prog_49_method_4_code 64 = .ok (.dup, 1) := by decide +kernel
theorem d4_65 : decode prog_49_method_4_code 65 = .ok (.getfield 20, 3) := by decide +kernel
theorem d4_68 : decode prog_49_method_4_code 68 = .ok (.aload_n 0, 1) := by decide +kernel
theorem d4_69 : decode prog_49_method_4_code 69 = .ok (.getfield 11, 3) := by decide +kernel
theorem d4_72 : decode prog_49_method_4_code 72 = .ok (.ladd, 1) := by decide +kernel
theorem d4_73 : decode prog_49_method_4_code 73 = .ok (.putfield 20, 3) := by decide +kernel
theorem d4_76 : decode prog_49_method_4_code 76 = .ok (.goto (-55), 3) := by decide +kernel
theorem d4_79 : decode prog_49_method_4_code 79 = .ok (.iconst 1, 1) := by decide +kernel
theorem d4_80 : decode prog_49_method_4_code 80 = .ok (.ireturn, 1) := by decide +kernel
def Q4_0 (Z : State) (ob : Addr) (u0 : Int64) (u1 : Int64) (h0 : Heap) (n0 : Nat) (v : Option Value) (h : Heap) (L : List Loc) : Prop := ∃ r : Int32, v = some (.int r) ∧ Fr n0 L ∧ Keep h0 h [ob] ∧ Exa Z h ob "com/example/troskel/troskel/service/RetransmissionTimer" ∧ Fld Z h ob "com/example/troskel/troskel/service/RetransmissionTimer" "next" "J" (.long (own_nx0 u0 u1)) ∧ Fld Z h ob "com/example/troskel/troskel/service/RetransmissionTimer" "timeoutAt" "J" (.long (u0 + (32000000000 : Int64)))
theorem ef_4_0 (m : MethodId) (x0 : Addr) (x1 : Int64) : entryFrame m #[(.ref x0), (.long x1)] 3 = mkF m 0 #[.val (.ref x0), .val (.long x1), .second] [] := by first | (simp [entryFrame, mkF, argsToLocals, Value.category]; done) | rfl
set_option maxRecDepth 65536 in
set_option maxHeartbeats 40000000 in
theorem rm4_0 (l : Launch) (Z : State) (a0 : Array Value) (hw : ∀ d ∈ tables_1, d.before a0 Z = true) (ws : List Jvm.Cond) (ob : Addr) (u0 : Int64) (u1 : Int64) (h0 : Heap) (n0 : Nat) (Z0 : n0 ≤ h0.size) (E_ob : Exa Z h0 ob "com/example/troskel/troskel/service/RetransmissionTimer") (gnob : n0 ≤ ob) (F_interval : Fld Z h0 ob "com/example/troskel/troskel/service/RetransmissionTimer" "interval" "J" (.long (500000000 : Int64))) (F_timeoutAt : Fld Z h0 ob "com/example/troskel/troskel/service/RetransmissionTimer" "timeoutAt" "J" (.long (u0 + (32000000000 : Int64)))) (F_next : Fld Z h0 ob "com/example/troskel/troskel/service/RetransmissionTimer" "next" "J" (.long (u0 + (500000000 : Int64)))) (F_proceeding : Fld Z h0 ob "com/example/troskel/troskel/service/RetransmissionTimer" "proceeding" "Z" (.int (0 : Int32))) (hk : own_rg u1) :
    MetFree l (⟨"com/example/troskel/troskel/service/RetransmissionTimer", "retransmits", "(J)Z"⟩ : MethodName) (head1 (Jvm.Cond.code (⟨"com/example/troskel/troskel/service/RetransmissionTimer", "retransmits", "(J)Z"⟩ : MethodName) prog_49_method_4_code 3 (some .boolean) :: ws) ({ frames := 1, cells := 0, slots := 0, locals := 30 } : Room)) (fun a U => a = #[(.ref ob), (.long (u0 + u1))] ∧ Z.Warmed39 U.vm ∧ U.heap = h0) (fun _ _ _ _ _ => True) (fun _ U o U' => ∃ v L, o = .returned v ∧ Q4_0 Z ob u0 u1 h0 n0 v U'.heap L ∧ FrameEnd U o U' L ({ frames := 1, cells := 0, slots := 0, locals := 30 } : Room).cells ({ frames := 1, cells := 0, slots := 0, locals := 30 } : Room).slots) := by
  refine MetFree.of_bodySF (plainFor_of_name own_pn0) hisR ?_
  intro p e s m args below meth c s₁ Bd hml0 hP hK
  obtain ⟨rfl, hZ, hh⟩ := hP
  have hx := Bd.exec
  have hby := Bd.bytes
  have hml : c.maxLocals = 3 := hml0
  have hown : s.vm.findClass "com/example/troskel/troskel/service/RetransmissionTimer" = some m.cls := findClass_of_methodNamed Bd.named
  have hnm := (name_of_methodNamed Bd.named Bd.method).1
  have X0 : Stand p l e ({ frames := 1, cells := 0, slots := 0, locals := 30 } : Room) s m #[(.ref ob), (.long (u0 + u1))] below meth c s₁ [] 0 0 := Stand.of_body Bd
  have e0 : s₁.heap = h0 := by rw [← hh, Bd.state]; rfl
  have N0 := Fr.nil n0
  refine own_in ?_
  refine own_st (fun _ k => castTop (ef_4_0 m ob (u0 + u1)) k) ?_
  have K0 : Keep h0 h0 [ob] := Keep.refl h0 [ob]
  show own_Go _ _ _ _ (s₁.setTop (mkF m 0 #[.val (.ref ob), .val (.long (u0 + u1)), .second] []))
  refine own_st (fun _ k => XS.aloadN X0.here hx rfl (hb hby d4_0) rfl rfl k) ?_
  show own_Go _ _ _ _ (s₁.setTop (mkF m 1 #[.val (.ref ob), .val (.long (u0 + u1)), .second] [(.ref ob)]))
  refine own_st (fun _ k => XS.lloadN X0.here hx rfl (hb hby d4_1) rfl k) ?_
  show own_Go _ _ _ _ (s₁.setTop (mkF m 2 #[.val (.ref ob), .val (.long (u0 + u1)), .second] [(.long (u0 + u1)), (.ref ob)]))
  obtain ⟨cq25, kq25, q25a, q25b, q25c⟩ := isOf hZ e0 E_ob
  obtain ⟨_, _, ⟨T25, L25, k25, n25⟩, -, X25, ⟨Lc25, hQ25, l25, y25, z25⟩, st25⟩ := X0.virtualBack hx (y := (⟨"com/example/troskel/troskel/service/RetransmissionTimer", "timedOut", "(J)Z"⟩ : MethodName)) (z := (⟨"com/example/troskel/troskel/service/RetransmissionTimer", "timedOut", "(J)Z"⟩ : MethodName)) hown (mvT hZ (hw _ (List.mem_of_getElem? (i := 29) rfl))) (mvT hZ (hw _ (List.mem_of_getElem? (i := 30) rfl))) (notFace_of_selects (args := #[]) (mvT hZ (hw _ (List.mem_of_getElem? (i := 32) rfl)))) (mvT hZ (hw _ (List.mem_of_getElem? (i := 32) rfl))) (mvT hZ (hw _ (List.mem_of_getElem? (i := 31) rfl))) (by decide) (backOf (W := 0) (rm5 l Z a0 hw [] ob (u0 + u1) (u0 + (32000000000 : Int64)) h0 n0 Z0 F_timeoutAt ) hZ (hw _ (List.mem_of_getElem? (i := 33) rfl)) (hw _ (List.mem_of_getElem? (i := 3) rfl)) (by decide) (by decide)) q25a q25c (g := (mkF m 2 #[.val (.ref ob), .val (.long (u0 + u1)), .second] [(.long (u0 + u1)), (.ref ob)])) rfl (by rw [hml]; rfl) (Steps.refl _) (argsL := [(.long (u0 + u1))]) (rest := []) (lenOf own_pd2 rfl) rfl (by show 2 * 0 + _ ≤ _; exact Nat.le_of_eq rfl) (hb hby d4_2) (fun _ _ => ⟨rfl, e0, (by decide : 0 + 0 ≤ _), (by decide : 0 + 0 ≤ _)⟩)
  dsimp only [Pt.U, Pt.locs, Pt.cells, Pt.slots] at X25 l25 y25 z25 st25 hQ25
  rw [l25, y25, z25] at X25
  obtain ⟨rfl, Nq25, eq25⟩ := hQ25
  have N25 := Fr.app N0 Nq25
  refine own_tr st25 ?_
  show own_Go _ _ _ _ (T25.setTop (mkF m 5 #[.val (.ref ob), .val (.long (u0 + u1)), .second] [(.int (own_to (u0 + u1) (u0 + (32000000000 : Int64))))]))
  by_cases hc26 : (own_to (u0 + u1) (u0 + (32000000000 : Int64))) = (0 : Int32)
  · skip
    refine own_st (fun _ k => XS.ifNo X25.here hx rfl (hb hby d4_5) rfl ((if0 _ _).trans (teq hc26).2) k) ?_
    show own_Go _ _ _ _ (T25.setTop (mkF m 8 #[.val (.ref ob), .val (.long (u0 + u1)), .second] []))
    refine own_st (fun _ k => XS.lloadN X25.here hx rfl (hb hby d4_8) rfl k) ?_
    show own_Go _ _ _ _ (T25.setTop (mkF m 9 #[.val (.ref ob), .val (.long (u0 + u1)), .second] [(.long (u0 + u1))]))
    refine own_st (fun _ k => XS.aloadN X25.here hx rfl (hb hby d4_9) rfl rfl k) ?_
    show own_Go _ _ _ _ (T25.setTop (mkF m 10 #[.val (.ref ob), .val (.long (u0 + u1)), .second] [(.ref ob), (.long (u0 + u1))]))
    obtain ⟨T27, X27, e27, st27⟩ := getF X25 hx hZ hown (host := "") (Or.inl (hw _ (List.mem_of_getElem? (i := 16) rfl))) Via.refl eq25 F_next (g := (mkF m 10 #[.val (.ref ob), .val (.long (u0 + u1)), .second] [(.ref ob), (.long (u0 + u1))])) rfl rfl (hb hby d4_10)
    refine own_st st27 ?_
    show own_Go _ _ _ _ (T27.setTop (mkF m 13 #[.val (.ref ob), .val (.long (u0 + u1)), .second] [(.long (u0 + (500000000 : Int64))), (.long (u0 + u1))]))
    refine own_st (fun _ k => XS.lsub X27.here hx rfl (hb hby d4_13) rfl k) ?_
    show own_Go _ _ _ _ (T27.setTop (mkF m 14 #[.val (.ref ob), .val (.long (u0 + u1)), .second] [(.long ((u0 + u1) - (u0 + (500000000 : Int64))))]))
    refine own_st (fun _ k => XS.lconst X27.here hx rfl (hb hby d4_14) k) ?_
    show own_Go _ _ _ _ (T27.setTop (mkF m 15 #[.val (.ref ob), .val (.long (u0 + u1)), .second] [(.long (0 : Int64)), (.long ((u0 + u1) - (u0 + (500000000 : Int64))))]))
    refine own_st (fun _ k => XS.lcmp X27.here hx rfl (hb hby d4_15) rfl k) ?_
    show own_Go _ _ _ _ (T27.setTop (mkF m 16 #[.val (.ref ob), .val (.long (u0 + u1)), .second] [(.int (lcmpW ((u0 + u1) - (u0 + (500000000 : Int64))) (0 : Int64)))]))
    by_cases hc28 : (lcmpW ((u0 + u1) - (u0 + (500000000 : Int64))) (0 : Int64)) < (0 : Int32)
    · skip
      refine own_st (fun _ k => XS.ifNo X27.here hx rfl (hb hby d4_16) rfl ((if0 _ _).trans (tlt hc28).2.1) k) ?_
      show own_Go _ _ _ _ (T27.setTop (mkF m 19 #[.val (.ref ob), .val (.long (u0 + u1)), .second] []))
      refine own_st (fun _ k => XS.iconst X27.here hx rfl (hb hby d4_19) k) ?_
      show own_Go _ _ _ _ (T27.setTop (mkF m 20 #[.val (.ref ob), .val (.long (u0 + u1)), .second] [(.int (0 : Int32))]))
      obtain ⟨fs, hr, hrun, hended, hW, hsame⟩ := X27.leave (v := some (.int (0 : Int32))) (fun h => by rw [Bd.returns] at h; cases h)
      refine own_out (retN X27 hx (t := .boolean) Bd.returns (by simp) (hb hby d4_20) hr) ⟨hrun, hended, _, _, rfl, ?_, ⟨_, rfl⟩, hW, hsame.mono (by decide) (by decide)⟩
      show Q4_0 Z ob u0 u1 h0 n0 _ T27.heap _
      have hv : own_nx0 u0 u1 = (u0 + (500000000 : Int64)) := by
        unfold own_nx0
        rw [if_pos hc26, if_pos hc28]
      rw [e27]
      exact ⟨_, rfl, N25, K0, E_ob, by rw [hv]; exact F_next, F_timeoutAt⟩
    · skip
      refine own_st (fun _ k => XS.ifYes X27.here hx rfl (pc0 := 16) (pc' := 21) rfl (hb hby d4_16) rfl ((if0 _ _).trans (flt hc28).2.1) (by decide) (by decide) k) ?_
      show own_Go _ _ _ _ (T27.setTop (mkF m 21 #[.val (.ref ob), .val (.long (u0 + u1)), .second] []))
      refine own_st (fun _ k => XS.lloadN X27.here hx rfl (hb hby d4_21) rfl k) ?_
      show own_Go _ _ _ _ (T27.setTop (mkF m 22 #[.val (.ref ob), .val (.long (u0 + u1)), .second] [(.long (u0 + u1))]))
      refine own_st (fun _ k => XS.aloadN X27.here hx rfl (hb hby d4_22) rfl rfl k) ?_
      show own_Go _ _ _ _ (T27.setTop (mkF m 23 #[.val (.ref ob), .val (.long (u0 + u1)), .second] [(.ref ob), (.long (u0 + u1))]))
      obtain ⟨T29, X29, e29, st29⟩ := getF X27 hx hZ hown (host := "") (Or.inl (hw _ (List.mem_of_getElem? (i := 16) rfl))) Via.refl e27 F_next (g := (mkF m 23 #[.val (.ref ob), .val (.long (u0 + u1)), .second] [(.ref ob), (.long (u0 + u1))])) rfl rfl (hb hby d4_23)
      refine own_st st29 ?_
      show own_Go _ _ _ _ (T29.setTop (mkF m 26 #[.val (.ref ob), .val (.long (u0 + u1)), .second] [(.long (u0 + (500000000 : Int64))), (.long (u0 + u1))]))
      refine own_st (fun _ k => XS.lsub X29.here hx rfl (hb hby d4_26) rfl k) ?_
      show own_Go _ _ _ _ (T29.setTop (mkF m 27 #[.val (.ref ob), .val (.long (u0 + u1)), .second] [(.long ((u0 + u1) - (u0 + (500000000 : Int64))))]))
      refine own_st (fun _ k => XS.lconst X29.here hx rfl (hb hby d4_27) k) ?_
      show own_Go _ _ _ _ (T29.setTop (mkF m 28 #[.val (.ref ob), .val (.long (u0 + u1)), .second] [(.long (0 : Int64)), (.long ((u0 + u1) - (u0 + (500000000 : Int64))))]))
      refine own_st (fun _ k => XS.lcmp X29.here hx rfl (hb hby d4_28) rfl k) ?_
      show own_Go _ _ _ _ (T29.setTop (mkF m 29 #[.val (.ref ob), .val (.long (u0 + u1)), .second] [(.int (lcmpW ((u0 + u1) - (u0 + (500000000 : Int64))) (0 : Int64)))]))
      refine own_st (fun _ k => XS.ifNo X29.here hx rfl (hb hby d4_29) rfl ((if0 _ _).trans (flt (hc28)).1) k) ?_
      show own_Go _ _ _ _ (T29.setTop (mkF m 32 #[.val (.ref ob), .val (.long (u0 + u1)), .second] []))
      refine own_st (fun _ k => XS.aloadN X29.here hx rfl (hb hby d4_32) rfl rfl k) ?_
      show own_Go _ _ _ _ (T29.setTop (mkF m 33 #[.val (.ref ob), .val (.long (u0 + u1)), .second] [(.ref ob)]))
      refine own_st (fun _ k => XS.aloadN X29.here hx rfl (hb hby d4_33) rfl rfl k) ?_
      show own_Go _ _ _ _ (T29.setTop (mkF m 34 #[.val (.ref ob), .val (.long (u0 + u1)), .second] [(.ref ob), (.ref ob)]))
      obtain ⟨T30, X30, e30, st30⟩ := getF X29 hx hZ hown (host := "") (Or.inl (hw _ (List.mem_of_getElem? (i := 43) rfl))) Via.refl e29 F_proceeding (g := (mkF m 34 #[.val (.ref ob), .val (.long (u0 + u1)), .second] [(.ref ob), (.ref ob)])) rfl rfl (hb hby d4_34)
      refine own_st st30 ?_
      show own_Go _ _ _ _ (T30.setTop (mkF m 37 #[.val (.ref ob), .val (.long (u0 + u1)), .second] [(.int (0 : Int32)), (.ref ob)]))
      refine own_st (fun _ k => XS.ifYes X30.here hx rfl (pc0 := 37) (pc' := 46) rfl (hb hby d4_37) rfl ((if0 _ _).trans (teq (by decide : ((0 : Int32) = (0 : Int32)))).1) (by decide) (by decide) k) ?_
      show own_Go _ _ _ _ (T30.setTop (mkF m 46 #[.val (.ref ob), .val (.long (u0 + u1)), .second] [(.ref ob)]))
      refine own_st (fun _ k => X30.ldc2Long hx hown (mvT hZ (hw _ (List.mem_of_getElem? (i := 52) rfl))) (g := (mkF m 46 #[.val (.ref ob), .val (.long (u0 + u1)), .second] [(.ref ob)])) rfl (hb hby d4_46) _ k) ?_
      show own_Go _ _ _ _ (T30.setTop (mkF m 49 #[.val (.ref ob), .val (.long (u0 + u1)), .second] [(.long (2 : Int64)), (.ref ob)]))
      refine own_st (fun _ k => XS.aloadN X30.here hx rfl (hb hby d4_49) rfl rfl k) ?_
      show own_Go _ _ _ _ (T30.setTop (mkF m 50 #[.val (.ref ob), .val (.long (u0 + u1)), .second] [(.ref ob), (.long (2 : Int64)), (.ref ob)]))
      obtain ⟨T31, X31, e31, st31⟩ := getF X30 hx hZ hown (host := "") (Or.inl (hw _ (List.mem_of_getElem? (i := 11) rfl))) Via.refl e30 F_interval (g := (mkF m 50 #[.val (.ref ob), .val (.long (u0 + u1)), .second] [(.ref ob), (.long (2 : Int64)), (.ref ob)])) rfl rfl (hb hby d4_50)
      refine own_st st31 ?_
      show own_Go _ _ _ _ (T31.setTop (mkF m 53 #[.val (.ref ob), .val (.long (u0 + u1)), .second] [(.long (500000000 : Int64)), (.long (2 : Int64)), (.ref ob)]))
      refine own_st (fun _ k => XS.lmul X31.here hx rfl (hb hby d4_53) rfl k) ?_
      show own_Go _ _ _ _ (T31.setTop (mkF m 54 #[.val (.ref ob), .val (.long (u0 + u1)), .second] [(.long (1000000000 : Int64)), (.ref ob)]))
      refine own_st (fun _ k => X31.ldc2Long hx hown (mvT hZ (hw _ (List.mem_of_getElem? (i := 46) rfl))) (g := (mkF m 54 #[.val (.ref ob), .val (.long (u0 + u1)), .second] [(.long (1000000000 : Int64)), (.ref ob)])) rfl (hb hby d4_54) _ k) ?_
      show own_Go _ _ _ _ (T31.setTop (mkF m 57 #[.val (.ref ob), .val (.long (u0 + u1)), .second] [(.long (4000000000 : Int64)), (.long (1000000000 : Int64)), (.ref ob)]))
      obtain ⟨_, _, ⟨T32, L32, k32, n32⟩, -, X32, ⟨Lc32, hQ32, l32, y32, z32⟩, st32⟩ := Jvm.LawKit.callS X31 hx (y := (⟨"java/lang/Math", "min", "(JJ)J"⟩ : MethodName)) hown (mvT hZ (hw _ (List.mem_of_getElem? (i := 53) rfl))) (mvT hZ (hw _ (List.mem_of_getElem? (i := 49) rfl))) (mvT hZ (hw _ (List.mem_of_getElem? (i := 50) rfl))) (mvT hZ (hw _ (List.mem_of_getElem? (i := 51) rfl))) (by decide) (backOf (W := 1) (rm8 l Z a0 hw [] (1000000000 : Int64) (4000000000 : Int64) h0 n0 Z0 ) hZ (hw _ (List.mem_of_getElem? (i := 51) rfl)) (hw _ (List.mem_of_getElem? (i := 50) rfl)) (by decide) (by decide)) (g := (mkF m 57 #[.val (.ref ob), .val (.long (u0 + u1)), .second] [(.long (4000000000 : Int64)), (.long (1000000000 : Int64)), (.ref ob)])) rfl (by rw [hml]; rfl) (argsL := [(.long (1000000000 : Int64)), (.long (4000000000 : Int64))]) (rest := [(.ref ob)]) (lenOf own_pd0 rfl) rfl (by show 2 * 0 + _ ≤ _; exact Nat.le_of_eq rfl) (hb hby d4_57) (fun _ _ => ⟨rfl, e31, (by decide : 0 + 0 ≤ _), (by decide : 0 + 0 ≤ _)⟩)
      dsimp only [Pt.U, Pt.locs, Pt.cells, Pt.slots] at X32 l32 y32 z32 st32 hQ32
      rw [l32, y32, z32] at X32
      obtain ⟨rfl, Nq32, eq32⟩ := hQ32
      have N32 := Fr.app N25 Nq32
      refine own_st st32 ?_
      rw [show (own_mn (1000000000 : Int64) (4000000000 : Int64)) = (1000000000 : Int64) from by decide]
      show own_Go _ _ _ _ (T32.setTop (mkF m 60 #[.val (.ref ob), .val (.long (u0 + u1)), .second] [(.long (1000000000 : Int64)), (.ref ob)]))
      obtain ⟨T33, h33, X33, e33, W33, st33⟩ := putF X32 hx hZ hown (host := "") (Or.inl (hw _ (List.mem_of_getElem? (i := 11) rfl))) Via.refl eq32 F_interval E_ob (Or.inl (hw _ (List.mem_of_getElem? (i := 12) rfl))) (hw _ (List.mem_of_getElem? (i := 2) rfl)) (ty := .long) (by decide) rfl rfl (g := (mkF m 60 #[.val (.ref ob), .val (.long (u0 + u1)), .second] [(.long (1000000000 : Int64)), (.ref ob)])) rfl rfl (hb hby d4_60)
      refine own_st st33 ?_
      have Fw33 : Fld Z h33 ob "com/example/troskel/troskel/service/RetransmissionTimer" "interval" "J" (.long (1000000000 : Int64)) := F_interval.same W33
      have y33_E_ob := E_ob.wr W33
      have y33_F_ob_timeoutAt := F_timeoutAt.other W33 (Or.inr (slot_ne (Or.inr (hw _ (List.mem_of_getElem? (i := 15) rfl))) (Or.inl (hw _ (List.mem_of_getElem? (i := 12) rfl))) (by decide) (t := .long) (t' := .long) (by decide) (by decide)))
      have y33_F_ob_next := F_next.other W33 (Or.inr (slot_ne (Or.inl (hw _ (List.mem_of_getElem? (i := 17) rfl))) (Or.inl (hw _ (List.mem_of_getElem? (i := 12) rfl))) (by decide) (t := .long) (t' := .long) (by decide) (by decide)))
      have y33_F_ob_proceeding := F_proceeding.other W33 (Or.inr (slot_ne (Or.inl (hw _ (List.mem_of_getElem? (i := 44) rfl))) (Or.inl (hw _ (List.mem_of_getElem? (i := 12) rfl))) (by decide) (t := .boolean) (t' := .long) (by decide) (by decide)))
      have Z33 : n0 ≤ h33.size := Nat.le_trans Z0 (Nat.le_of_eq W33.size.symm)
      have N33 := Fr.snoc X33 N32 gnob
      have K33 : Keep h0 h33 [ob] := K0.wr W33 (Or.inl (by simp))
      show own_Go _ _ _ _ (T33.setTop (mkF m 63 #[.val (.ref ob), .val (.long (u0 + u1)), .second] []))
      refine own_st (fun _ k => XS.aloadN X33.here hx rfl (hb hby d4_63) rfl rfl k) ?_
      show own_Go _ _ _ _ (T33.setTop (mkF m 64 #[.val (.ref ob), .val (.long (u0 + u1)), .second] [(.ref ob)]))
      refine own_st (fun _ k => XS.dup X33.here hx rfl (hb hby d4_64) rfl rfl k) ?_
      show own_Go _ _ _ _ (T33.setTop (mkF m 65 #[.val (.ref ob), .val (.long (u0 + u1)), .second] [(.ref ob), (.ref ob)]))
      obtain ⟨T34, X34, e34, st34⟩ := getF X33 hx hZ hown (host := "") (Or.inl (hw _ (List.mem_of_getElem? (i := 16) rfl))) Via.refl e33 y33_F_ob_next (g := (mkF m 65 #[.val (.ref ob), .val (.long (u0 + u1)), .second] [(.ref ob), (.ref ob)])) rfl rfl (hb hby d4_65)
      refine own_st st34 ?_
      show own_Go _ _ _ _ (T34.setTop (mkF m 68 #[.val (.ref ob), .val (.long (u0 + u1)), .second] [(.long (u0 + (500000000 : Int64))), (.ref ob)]))
      refine own_st (fun _ k => XS.aloadN X34.here hx rfl (hb hby d4_68) rfl rfl k) ?_
      show own_Go _ _ _ _ (T34.setTop (mkF m 69 #[.val (.ref ob), .val (.long (u0 + u1)), .second] [(.ref ob), (.long (u0 + (500000000 : Int64))), (.ref ob)]))
      obtain ⟨T35, X35, e35, st35⟩ := getF X34 hx hZ hown (host := "") (Or.inl (hw _ (List.mem_of_getElem? (i := 11) rfl))) Via.refl e34 Fw33 (g := (mkF m 69 #[.val (.ref ob), .val (.long (u0 + u1)), .second] [(.ref ob), (.long (u0 + (500000000 : Int64))), (.ref ob)])) rfl rfl (hb hby d4_69)
      refine own_st st35 ?_
      show own_Go _ _ _ _ (T35.setTop (mkF m 72 #[.val (.ref ob), .val (.long (u0 + u1)), .second] [(.long (1000000000 : Int64)), (.long (u0 + (500000000 : Int64))), (.ref ob)]))
      refine own_st (fun _ k => XS.ladd X35.here hx rfl (hb hby d4_72) rfl k) ?_
      rw [show ((u0 + (500000000 : Int64)) + (1000000000 : Int64)) = (u0 + (1500000000 : Int64)) from by rw [Int64.add_assoc, show (500000000 : Int64) + (1000000000 : Int64) = (1500000000 : Int64) from by decide]]
      show own_Go _ _ _ _ (T35.setTop (mkF m 73 #[.val (.ref ob), .val (.long (u0 + u1)), .second] [(.long (u0 + (1500000000 : Int64))), (.ref ob)]))
      obtain ⟨T36, h36, X36, e36, W36, st36⟩ := putF X35 hx hZ hown (host := "") (Or.inl (hw _ (List.mem_of_getElem? (i := 16) rfl))) Via.refl e35 y33_F_ob_next y33_E_ob (Or.inl (hw _ (List.mem_of_getElem? (i := 17) rfl))) (hw _ (List.mem_of_getElem? (i := 2) rfl)) (ty := .long) (by decide) rfl rfl (g := (mkF m 73 #[.val (.ref ob), .val (.long (u0 + u1)), .second] [(.long (u0 + (1500000000 : Int64))), (.ref ob)])) rfl rfl (hb hby d4_73)
      refine own_st st36 ?_
      have Fw36 : Fld Z h36 ob "com/example/troskel/troskel/service/RetransmissionTimer" "next" "J" (.long (u0 + (1500000000 : Int64))) := y33_F_ob_next.same W36
      have y36_E_ob := y33_E_ob.wr W36
      have y36_F_ob_interval := Fw33.other W36 (Or.inr (slot_ne (Or.inl (hw _ (List.mem_of_getElem? (i := 12) rfl))) (Or.inl (hw _ (List.mem_of_getElem? (i := 17) rfl))) (by decide) (t := .long) (t' := .long) (by decide) (by decide)))
      have y36_F_ob_timeoutAt := y33_F_ob_timeoutAt.other W36 (Or.inr (slot_ne (Or.inr (hw _ (List.mem_of_getElem? (i := 15) rfl))) (Or.inl (hw _ (List.mem_of_getElem? (i := 17) rfl))) (by decide) (t := .long) (t' := .long) (by decide) (by decide)))
      have y36_F_ob_proceeding := y33_F_ob_proceeding.other W36 (Or.inr (slot_ne (Or.inl (hw _ (List.mem_of_getElem? (i := 44) rfl))) (Or.inl (hw _ (List.mem_of_getElem? (i := 17) rfl))) (by decide) (t := .boolean) (t' := .long) (by decide) (by decide)))
      have Z36 : n0 ≤ h36.size := Nat.le_trans Z33 (Nat.le_of_eq W36.size.symm)
      have N36 := Fr.snoc X36 N33 gnob
      have K36 : Keep h0 h36 [ob] := K33.wr W36 (Or.inl (by simp))
      show own_Go _ _ _ _ (T36.setTop (mkF m 76 #[.val (.ref ob), .val (.long (u0 + u1)), .second] []))
      refine own_st (fun _ k => XS.goto X36.here hx rfl (pc0 := 76) (pc' := 21) rfl (hb hby d4_76) (by decide) (by decide) k) ?_
      show own_Go _ _ _ _ (T36.setTop (mkF m 21 #[.val (.ref ob), .val (.long (u0 + u1)), .second] []))
      refine own_st (fun _ k => XS.lloadN X36.here hx rfl (hb hby d4_21) rfl k) ?_
      show own_Go _ _ _ _ (T36.setTop (mkF m 22 #[.val (.ref ob), .val (.long (u0 + u1)), .second] [(.long (u0 + u1))]))
      refine own_st (fun _ k => XS.aloadN X36.here hx rfl (hb hby d4_22) rfl rfl k) ?_
      show own_Go _ _ _ _ (T36.setTop (mkF m 23 #[.val (.ref ob), .val (.long (u0 + u1)), .second] [(.ref ob), (.long (u0 + u1))]))
      obtain ⟨T37, X37, e37, st37⟩ := getF X36 hx hZ hown (host := "") (Or.inl (hw _ (List.mem_of_getElem? (i := 16) rfl))) Via.refl e36 Fw36 (g := (mkF m 23 #[.val (.ref ob), .val (.long (u0 + u1)), .second] [(.ref ob), (.long (u0 + u1))])) rfl rfl (hb hby d4_23)
      refine own_st st37 ?_
      show own_Go _ _ _ _ (T37.setTop (mkF m 26 #[.val (.ref ob), .val (.long (u0 + u1)), .second] [(.long (u0 + (1500000000 : Int64))), (.long (u0 + u1))]))
      refine own_st (fun _ k => XS.lsub X37.here hx rfl (hb hby d4_26) rfl k) ?_
      show own_Go _ _ _ _ (T37.setTop (mkF m 27 #[.val (.ref ob), .val (.long (u0 + u1)), .second] [(.long ((u0 + u1) - (u0 + (1500000000 : Int64))))]))
      refine own_st (fun _ k => XS.lconst X37.here hx rfl (hb hby d4_27) k) ?_
      show own_Go _ _ _ _ (T37.setTop (mkF m 28 #[.val (.ref ob), .val (.long (u0 + u1)), .second] [(.long (0 : Int64)), (.long ((u0 + u1) - (u0 + (1500000000 : Int64))))]))
      refine own_st (fun _ k => XS.lcmp X37.here hx rfl (hb hby d4_28) rfl k) ?_
      show own_Go _ _ _ _ (T37.setTop (mkF m 29 #[.val (.ref ob), .val (.long (u0 + u1)), .second] [(.int (lcmpW ((u0 + u1) - (u0 + (1500000000 : Int64))) (0 : Int64)))]))
      by_cases hc38 : (lcmpW ((u0 + u1) - (u0 + (1500000000 : Int64))) (0 : Int64)) < (0 : Int32)
      · skip
        refine own_st (fun _ k => XS.ifYes X37.here hx rfl (pc0 := 29) (pc' := 79) rfl (hb hby d4_29) rfl ((if0 _ _).trans (tlt hc38).1) (by decide) (by decide) k) ?_
        show own_Go _ _ _ _ (T37.setTop (mkF m 79 #[.val (.ref ob), .val (.long (u0 + u1)), .second] []))
        refine own_st (fun _ k => XS.iconst X37.here hx rfl (hb hby d4_79) k) ?_
        show own_Go _ _ _ _ (T37.setTop (mkF m 80 #[.val (.ref ob), .val (.long (u0 + u1)), .second] [(.int (1 : Int32))]))
        obtain ⟨fs, hr, hrun, hended, hW, hsame⟩ := X37.leave (v := some (.int (1 : Int32))) (fun h => by rw [Bd.returns] at h; cases h)
        refine own_out (retN X37 hx (t := .boolean) Bd.returns (by simp) (hb hby d4_80) hr) ⟨hrun, hended, _, _, rfl, ?_, ⟨_, rfl⟩, hW, hsame.mono (by decide) (by decide)⟩
        show Q4_0 Z ob u0 u1 h0 n0 _ T37.heap _
        have hv : own_nx0 u0 u1 = (u0 + (1500000000 : Int64)) := by
          unfold own_nx0
          rw [if_pos hc26, if_neg hc28, if_pos hc38]
        rw [e37]
        exact ⟨_, rfl, N36, K36, y36_E_ob, by rw [hv]; exact Fw36, y36_F_ob_timeoutAt⟩
      · skip
        refine own_st (fun _ k => XS.ifNo X37.here hx rfl (hb hby d4_29) rfl ((if0 _ _).trans (flt hc38).1) k) ?_
        show own_Go _ _ _ _ (T37.setTop (mkF m 32 #[.val (.ref ob), .val (.long (u0 + u1)), .second] []))
        refine own_st (fun _ k => XS.aloadN X37.here hx rfl (hb hby d4_32) rfl rfl k) ?_
        show own_Go _ _ _ _ (T37.setTop (mkF m 33 #[.val (.ref ob), .val (.long (u0 + u1)), .second] [(.ref ob)]))
        refine own_st (fun _ k => XS.aloadN X37.here hx rfl (hb hby d4_33) rfl rfl k) ?_
        show own_Go _ _ _ _ (T37.setTop (mkF m 34 #[.val (.ref ob), .val (.long (u0 + u1)), .second] [(.ref ob), (.ref ob)]))
        obtain ⟨T39, X39, e39, st39⟩ := getF X37 hx hZ hown (host := "") (Or.inl (hw _ (List.mem_of_getElem? (i := 43) rfl))) Via.refl e37 y36_F_ob_proceeding (g := (mkF m 34 #[.val (.ref ob), .val (.long (u0 + u1)), .second] [(.ref ob), (.ref ob)])) rfl rfl (hb hby d4_34)
        refine own_st st39 ?_
        show own_Go _ _ _ _ (T39.setTop (mkF m 37 #[.val (.ref ob), .val (.long (u0 + u1)), .second] [(.int (0 : Int32)), (.ref ob)]))
        refine own_st (fun _ k => XS.ifYes X39.here hx rfl (pc0 := 37) (pc' := 46) rfl (hb hby d4_37) rfl ((if0 _ _).trans (teq (by decide : ((0 : Int32) = (0 : Int32)))).1) (by decide) (by decide) k) ?_
        show own_Go _ _ _ _ (T39.setTop (mkF m 46 #[.val (.ref ob), .val (.long (u0 + u1)), .second] [(.ref ob)]))
        refine own_st (fun _ k => X39.ldc2Long hx hown (mvT hZ (hw _ (List.mem_of_getElem? (i := 52) rfl))) (g := (mkF m 46 #[.val (.ref ob), .val (.long (u0 + u1)), .second] [(.ref ob)])) rfl (hb hby d4_46) _ k) ?_
        show own_Go _ _ _ _ (T39.setTop (mkF m 49 #[.val (.ref ob), .val (.long (u0 + u1)), .second] [(.long (2 : Int64)), (.ref ob)]))
        refine own_st (fun _ k => XS.aloadN X39.here hx rfl (hb hby d4_49) rfl rfl k) ?_
        show own_Go _ _ _ _ (T39.setTop (mkF m 50 #[.val (.ref ob), .val (.long (u0 + u1)), .second] [(.ref ob), (.long (2 : Int64)), (.ref ob)]))
        obtain ⟨T40, X40, e40, st40⟩ := getF X39 hx hZ hown (host := "") (Or.inl (hw _ (List.mem_of_getElem? (i := 11) rfl))) Via.refl e39 y36_F_ob_interval (g := (mkF m 50 #[.val (.ref ob), .val (.long (u0 + u1)), .second] [(.ref ob), (.long (2 : Int64)), (.ref ob)])) rfl rfl (hb hby d4_50)
        refine own_st st40 ?_
        show own_Go _ _ _ _ (T40.setTop (mkF m 53 #[.val (.ref ob), .val (.long (u0 + u1)), .second] [(.long (1000000000 : Int64)), (.long (2 : Int64)), (.ref ob)]))
        refine own_st (fun _ k => XS.lmul X40.here hx rfl (hb hby d4_53) rfl k) ?_
        show own_Go _ _ _ _ (T40.setTop (mkF m 54 #[.val (.ref ob), .val (.long (u0 + u1)), .second] [(.long (2000000000 : Int64)), (.ref ob)]))
        refine own_st (fun _ k => X40.ldc2Long hx hown (mvT hZ (hw _ (List.mem_of_getElem? (i := 46) rfl))) (g := (mkF m 54 #[.val (.ref ob), .val (.long (u0 + u1)), .second] [(.long (2000000000 : Int64)), (.ref ob)])) rfl (hb hby d4_54) _ k) ?_
        show own_Go _ _ _ _ (T40.setTop (mkF m 57 #[.val (.ref ob), .val (.long (u0 + u1)), .second] [(.long (4000000000 : Int64)), (.long (2000000000 : Int64)), (.ref ob)]))
        obtain ⟨_, _, ⟨T41, L41, k41, n41⟩, -, X41, ⟨Lc41, hQ41, l41, y41, z41⟩, st41⟩ := Jvm.LawKit.callS X40 hx (y := (⟨"java/lang/Math", "min", "(JJ)J"⟩ : MethodName)) hown (mvT hZ (hw _ (List.mem_of_getElem? (i := 53) rfl))) (mvT hZ (hw _ (List.mem_of_getElem? (i := 49) rfl))) (mvT hZ (hw _ (List.mem_of_getElem? (i := 50) rfl))) (mvT hZ (hw _ (List.mem_of_getElem? (i := 51) rfl))) (by decide) (backOf (W := 1) (rm8 l Z a0 hw [] (2000000000 : Int64) (4000000000 : Int64) h36 n0 Z36 ) hZ (hw _ (List.mem_of_getElem? (i := 51) rfl)) (hw _ (List.mem_of_getElem? (i := 50) rfl)) (by decide) (by decide)) (g := (mkF m 57 #[.val (.ref ob), .val (.long (u0 + u1)), .second] [(.long (4000000000 : Int64)), (.long (2000000000 : Int64)), (.ref ob)])) rfl (by rw [hml]; rfl) (argsL := [(.long (2000000000 : Int64)), (.long (4000000000 : Int64))]) (rest := [(.ref ob)]) (lenOf own_pd0 rfl) rfl (by show 2 * 0 + _ ≤ _; exact Nat.le_of_eq rfl) (hb hby d4_57) (fun _ _ => ⟨rfl, e40, (by decide : 0 + 0 ≤ _), (by decide : 0 + 0 ≤ _)⟩)
        dsimp only [Pt.U, Pt.locs, Pt.cells, Pt.slots] at X41 l41 y41 z41 st41 hQ41
        rw [l41, y41, z41] at X41
        obtain ⟨rfl, Nq41, eq41⟩ := hQ41
        have N41 := Fr.app N36 Nq41
        refine own_st st41 ?_
        rw [show (own_mn (2000000000 : Int64) (4000000000 : Int64)) = (2000000000 : Int64) from by decide]
        show own_Go _ _ _ _ (T41.setTop (mkF m 60 #[.val (.ref ob), .val (.long (u0 + u1)), .second] [(.long (2000000000 : Int64)), (.ref ob)]))
        obtain ⟨T42, h42, X42, e42, W42, st42⟩ := putF X41 hx hZ hown (host := "") (Or.inl (hw _ (List.mem_of_getElem? (i := 11) rfl))) Via.refl eq41 y36_F_ob_interval y36_E_ob (Or.inl (hw _ (List.mem_of_getElem? (i := 12) rfl))) (hw _ (List.mem_of_getElem? (i := 2) rfl)) (ty := .long) (by decide) rfl rfl (g := (mkF m 60 #[.val (.ref ob), .val (.long (u0 + u1)), .second] [(.long (2000000000 : Int64)), (.ref ob)])) rfl rfl (hb hby d4_60)
        refine own_st st42 ?_
        have Fw42 : Fld Z h42 ob "com/example/troskel/troskel/service/RetransmissionTimer" "interval" "J" (.long (2000000000 : Int64)) := y36_F_ob_interval.same W42
        have y42_E_ob := y36_E_ob.wr W42
        have y42_F_ob_timeoutAt := y36_F_ob_timeoutAt.other W42 (Or.inr (slot_ne (Or.inr (hw _ (List.mem_of_getElem? (i := 15) rfl))) (Or.inl (hw _ (List.mem_of_getElem? (i := 12) rfl))) (by decide) (t := .long) (t' := .long) (by decide) (by decide)))
        have y42_F_ob_next := Fw36.other W42 (Or.inr (slot_ne (Or.inl (hw _ (List.mem_of_getElem? (i := 17) rfl))) (Or.inl (hw _ (List.mem_of_getElem? (i := 12) rfl))) (by decide) (t := .long) (t' := .long) (by decide) (by decide)))
        have y42_F_ob_proceeding := y36_F_ob_proceeding.other W42 (Or.inr (slot_ne (Or.inl (hw _ (List.mem_of_getElem? (i := 44) rfl))) (Or.inl (hw _ (List.mem_of_getElem? (i := 12) rfl))) (by decide) (t := .boolean) (t' := .long) (by decide) (by decide)))
        have Z42 : n0 ≤ h42.size := Nat.le_trans Z36 (Nat.le_of_eq W42.size.symm)
        have N42 := Fr.snoc X42 N41 gnob
        have K42 : Keep h0 h42 [ob] := K36.wr W42 (Or.inl (by simp))
        show own_Go _ _ _ _ (T42.setTop (mkF m 63 #[.val (.ref ob), .val (.long (u0 + u1)), .second] []))
        refine own_st (fun _ k => XS.aloadN X42.here hx rfl (hb hby d4_63) rfl rfl k) ?_
        show own_Go _ _ _ _ (T42.setTop (mkF m 64 #[.val (.ref ob), .val (.long (u0 + u1)), .second] [(.ref ob)]))
        refine own_st (fun _ k => XS.dup X42.here hx rfl (hb hby d4_64) rfl rfl k) ?_
        show own_Go _ _ _ _ (T42.setTop (mkF m 65 #[.val (.ref ob), .val (.long (u0 + u1)), .second] [(.ref ob), (.ref ob)]))
        obtain ⟨T43, X43, e43, st43⟩ := getF X42 hx hZ hown (host := "") (Or.inl (hw _ (List.mem_of_getElem? (i := 16) rfl))) Via.refl e42 y42_F_ob_next (g := (mkF m 65 #[.val (.ref ob), .val (.long (u0 + u1)), .second] [(.ref ob), (.ref ob)])) rfl rfl (hb hby d4_65)
        refine own_st st43 ?_
        show own_Go _ _ _ _ (T43.setTop (mkF m 68 #[.val (.ref ob), .val (.long (u0 + u1)), .second] [(.long (u0 + (1500000000 : Int64))), (.ref ob)]))
        refine own_st (fun _ k => XS.aloadN X43.here hx rfl (hb hby d4_68) rfl rfl k) ?_
        show own_Go _ _ _ _ (T43.setTop (mkF m 69 #[.val (.ref ob), .val (.long (u0 + u1)), .second] [(.ref ob), (.long (u0 + (1500000000 : Int64))), (.ref ob)]))
        obtain ⟨T44, X44, e44, st44⟩ := getF X43 hx hZ hown (host := "") (Or.inl (hw _ (List.mem_of_getElem? (i := 11) rfl))) Via.refl e43 Fw42 (g := (mkF m 69 #[.val (.ref ob), .val (.long (u0 + u1)), .second] [(.ref ob), (.long (u0 + (1500000000 : Int64))), (.ref ob)])) rfl rfl (hb hby d4_69)
        refine own_st st44 ?_
        show own_Go _ _ _ _ (T44.setTop (mkF m 72 #[.val (.ref ob), .val (.long (u0 + u1)), .second] [(.long (2000000000 : Int64)), (.long (u0 + (1500000000 : Int64))), (.ref ob)]))
        refine own_st (fun _ k => XS.ladd X44.here hx rfl (hb hby d4_72) rfl k) ?_
        rw [show ((u0 + (1500000000 : Int64)) + (2000000000 : Int64)) = (u0 + (3500000000 : Int64)) from by rw [Int64.add_assoc, show (1500000000 : Int64) + (2000000000 : Int64) = (3500000000 : Int64) from by decide]]
        show own_Go _ _ _ _ (T44.setTop (mkF m 73 #[.val (.ref ob), .val (.long (u0 + u1)), .second] [(.long (u0 + (3500000000 : Int64))), (.ref ob)]))
        obtain ⟨T45, h45, X45, e45, W45, st45⟩ := putF X44 hx hZ hown (host := "") (Or.inl (hw _ (List.mem_of_getElem? (i := 16) rfl))) Via.refl e44 y42_F_ob_next y42_E_ob (Or.inl (hw _ (List.mem_of_getElem? (i := 17) rfl))) (hw _ (List.mem_of_getElem? (i := 2) rfl)) (ty := .long) (by decide) rfl rfl (g := (mkF m 73 #[.val (.ref ob), .val (.long (u0 + u1)), .second] [(.long (u0 + (3500000000 : Int64))), (.ref ob)])) rfl rfl (hb hby d4_73)
        refine own_st st45 ?_
        have Fw45 : Fld Z h45 ob "com/example/troskel/troskel/service/RetransmissionTimer" "next" "J" (.long (u0 + (3500000000 : Int64))) := y42_F_ob_next.same W45
        have y45_E_ob := y42_E_ob.wr W45
        have y45_F_ob_interval := Fw42.other W45 (Or.inr (slot_ne (Or.inl (hw _ (List.mem_of_getElem? (i := 12) rfl))) (Or.inl (hw _ (List.mem_of_getElem? (i := 17) rfl))) (by decide) (t := .long) (t' := .long) (by decide) (by decide)))
        have y45_F_ob_timeoutAt := y42_F_ob_timeoutAt.other W45 (Or.inr (slot_ne (Or.inr (hw _ (List.mem_of_getElem? (i := 15) rfl))) (Or.inl (hw _ (List.mem_of_getElem? (i := 17) rfl))) (by decide) (t := .long) (t' := .long) (by decide) (by decide)))
        have y45_F_ob_proceeding := y42_F_ob_proceeding.other W45 (Or.inr (slot_ne (Or.inl (hw _ (List.mem_of_getElem? (i := 44) rfl))) (Or.inl (hw _ (List.mem_of_getElem? (i := 17) rfl))) (by decide) (t := .boolean) (t' := .long) (by decide) (by decide)))
        have Z45 : n0 ≤ h45.size := Nat.le_trans Z42 (Nat.le_of_eq W45.size.symm)
        have N45 := Fr.snoc X45 N42 gnob
        have K45 : Keep h0 h45 [ob] := K42.wr W45 (Or.inl (by simp))
        show own_Go _ _ _ _ (T45.setTop (mkF m 76 #[.val (.ref ob), .val (.long (u0 + u1)), .second] []))
        refine own_st (fun _ k => XS.goto X45.here hx rfl (pc0 := 76) (pc' := 21) rfl (hb hby d4_76) (by decide) (by decide) k) ?_
        show own_Go _ _ _ _ (T45.setTop (mkF m 21 #[.val (.ref ob), .val (.long (u0 + u1)), .second] []))
        refine own_st (fun _ k => XS.lloadN X45.here hx rfl (hb hby d4_21) rfl k) ?_
        show own_Go _ _ _ _ (T45.setTop (mkF m 22 #[.val (.ref ob), .val (.long (u0 + u1)), .second] [(.long (u0 + u1))]))
        refine own_st (fun _ k => XS.aloadN X45.here hx rfl (hb hby d4_22) rfl rfl k) ?_
        show own_Go _ _ _ _ (T45.setTop (mkF m 23 #[.val (.ref ob), .val (.long (u0 + u1)), .second] [(.ref ob), (.long (u0 + u1))]))
        obtain ⟨T46, X46, e46, st46⟩ := getF X45 hx hZ hown (host := "") (Or.inl (hw _ (List.mem_of_getElem? (i := 16) rfl))) Via.refl e45 Fw45 (g := (mkF m 23 #[.val (.ref ob), .val (.long (u0 + u1)), .second] [(.ref ob), (.long (u0 + u1))])) rfl rfl (hb hby d4_23)
        refine own_st st46 ?_
        show own_Go _ _ _ _ (T46.setTop (mkF m 26 #[.val (.ref ob), .val (.long (u0 + u1)), .second] [(.long (u0 + (3500000000 : Int64))), (.long (u0 + u1))]))
        refine own_st (fun _ k => XS.lsub X46.here hx rfl (hb hby d4_26) rfl k) ?_
        show own_Go _ _ _ _ (T46.setTop (mkF m 27 #[.val (.ref ob), .val (.long (u0 + u1)), .second] [(.long ((u0 + u1) - (u0 + (3500000000 : Int64))))]))
        refine own_st (fun _ k => XS.lconst X46.here hx rfl (hb hby d4_27) k) ?_
        show own_Go _ _ _ _ (T46.setTop (mkF m 28 #[.val (.ref ob), .val (.long (u0 + u1)), .second] [(.long (0 : Int64)), (.long ((u0 + u1) - (u0 + (3500000000 : Int64))))]))
        refine own_st (fun _ k => XS.lcmp X46.here hx rfl (hb hby d4_28) rfl k) ?_
        show own_Go _ _ _ _ (T46.setTop (mkF m 29 #[.val (.ref ob), .val (.long (u0 + u1)), .second] [(.int (lcmpW ((u0 + u1) - (u0 + (3500000000 : Int64))) (0 : Int64)))]))
        by_cases hc47 : (lcmpW ((u0 + u1) - (u0 + (3500000000 : Int64))) (0 : Int64)) < (0 : Int32)
        · skip
          refine own_st (fun _ k => XS.ifYes X46.here hx rfl (pc0 := 29) (pc' := 79) rfl (hb hby d4_29) rfl ((if0 _ _).trans (tlt hc47).1) (by decide) (by decide) k) ?_
          show own_Go _ _ _ _ (T46.setTop (mkF m 79 #[.val (.ref ob), .val (.long (u0 + u1)), .second] []))
          refine own_st (fun _ k => XS.iconst X46.here hx rfl (hb hby d4_79) k) ?_
          show own_Go _ _ _ _ (T46.setTop (mkF m 80 #[.val (.ref ob), .val (.long (u0 + u1)), .second] [(.int (1 : Int32))]))
          obtain ⟨fs, hr, hrun, hended, hW, hsame⟩ := X46.leave (v := some (.int (1 : Int32))) (fun h => by rw [Bd.returns] at h; cases h)
          refine own_out (retN X46 hx (t := .boolean) Bd.returns (by simp) (hb hby d4_80) hr) ⟨hrun, hended, _, _, rfl, ?_, ⟨_, rfl⟩, hW, hsame.mono (by decide) (by decide)⟩
          show Q4_0 Z ob u0 u1 h0 n0 _ T46.heap _
          have hv : own_nx0 u0 u1 = (u0 + (3500000000 : Int64)) := by
            unfold own_nx0
            rw [if_pos hc26, if_neg hc28, if_neg hc38, if_pos hc47]
          rw [e46]
          exact ⟨_, rfl, N45, K45, y45_E_ob, by rw [hv]; exact Fw45, y45_F_ob_timeoutAt⟩
        · skip
          refine own_st (fun _ k => XS.ifNo X46.here hx rfl (hb hby d4_29) rfl ((if0 _ _).trans (flt hc47).1) k) ?_
          show own_Go _ _ _ _ (T46.setTop (mkF m 32 #[.val (.ref ob), .val (.long (u0 + u1)), .second] []))
          refine own_st (fun _ k => XS.aloadN X46.here hx rfl (hb hby d4_32) rfl rfl k) ?_
          show own_Go _ _ _ _ (T46.setTop (mkF m 33 #[.val (.ref ob), .val (.long (u0 + u1)), .second] [(.ref ob)]))
          refine own_st (fun _ k => XS.aloadN X46.here hx rfl (hb hby d4_33) rfl rfl k) ?_
          show own_Go _ _ _ _ (T46.setTop (mkF m 34 #[.val (.ref ob), .val (.long (u0 + u1)), .second] [(.ref ob), (.ref ob)]))
          obtain ⟨T48, X48, e48, st48⟩ := getF X46 hx hZ hown (host := "") (Or.inl (hw _ (List.mem_of_getElem? (i := 43) rfl))) Via.refl e46 y45_F_ob_proceeding (g := (mkF m 34 #[.val (.ref ob), .val (.long (u0 + u1)), .second] [(.ref ob), (.ref ob)])) rfl rfl (hb hby d4_34)
          refine own_st st48 ?_
          show own_Go _ _ _ _ (T48.setTop (mkF m 37 #[.val (.ref ob), .val (.long (u0 + u1)), .second] [(.int (0 : Int32)), (.ref ob)]))
          refine own_st (fun _ k => XS.ifYes X48.here hx rfl (pc0 := 37) (pc' := 46) rfl (hb hby d4_37) rfl ((if0 _ _).trans (teq (by decide : ((0 : Int32) = (0 : Int32)))).1) (by decide) (by decide) k) ?_
          show own_Go _ _ _ _ (T48.setTop (mkF m 46 #[.val (.ref ob), .val (.long (u0 + u1)), .second] [(.ref ob)]))
          refine own_st (fun _ k => X48.ldc2Long hx hown (mvT hZ (hw _ (List.mem_of_getElem? (i := 52) rfl))) (g := (mkF m 46 #[.val (.ref ob), .val (.long (u0 + u1)), .second] [(.ref ob)])) rfl (hb hby d4_46) _ k) ?_
          show own_Go _ _ _ _ (T48.setTop (mkF m 49 #[.val (.ref ob), .val (.long (u0 + u1)), .second] [(.long (2 : Int64)), (.ref ob)]))
          refine own_st (fun _ k => XS.aloadN X48.here hx rfl (hb hby d4_49) rfl rfl k) ?_
          show own_Go _ _ _ _ (T48.setTop (mkF m 50 #[.val (.ref ob), .val (.long (u0 + u1)), .second] [(.ref ob), (.long (2 : Int64)), (.ref ob)]))
          obtain ⟨T49, X49, e49, st49⟩ := getF X48 hx hZ hown (host := "") (Or.inl (hw _ (List.mem_of_getElem? (i := 11) rfl))) Via.refl e48 y45_F_ob_interval (g := (mkF m 50 #[.val (.ref ob), .val (.long (u0 + u1)), .second] [(.ref ob), (.long (2 : Int64)), (.ref ob)])) rfl rfl (hb hby d4_50)
          refine own_st st49 ?_
          show own_Go _ _ _ _ (T49.setTop (mkF m 53 #[.val (.ref ob), .val (.long (u0 + u1)), .second] [(.long (2000000000 : Int64)), (.long (2 : Int64)), (.ref ob)]))
          refine own_st (fun _ k => XS.lmul X49.here hx rfl (hb hby d4_53) rfl k) ?_
          show own_Go _ _ _ _ (T49.setTop (mkF m 54 #[.val (.ref ob), .val (.long (u0 + u1)), .second] [(.long (4000000000 : Int64)), (.ref ob)]))
          refine own_st (fun _ k => X49.ldc2Long hx hown (mvT hZ (hw _ (List.mem_of_getElem? (i := 46) rfl))) (g := (mkF m 54 #[.val (.ref ob), .val (.long (u0 + u1)), .second] [(.long (4000000000 : Int64)), (.ref ob)])) rfl (hb hby d4_54) _ k) ?_
          show own_Go _ _ _ _ (T49.setTop (mkF m 57 #[.val (.ref ob), .val (.long (u0 + u1)), .second] [(.long (4000000000 : Int64)), (.long (4000000000 : Int64)), (.ref ob)]))
          obtain ⟨_, _, ⟨T50, L50, k50, n50⟩, -, X50, ⟨Lc50, hQ50, l50, y50, z50⟩, st50⟩ := Jvm.LawKit.callS X49 hx (y := (⟨"java/lang/Math", "min", "(JJ)J"⟩ : MethodName)) hown (mvT hZ (hw _ (List.mem_of_getElem? (i := 53) rfl))) (mvT hZ (hw _ (List.mem_of_getElem? (i := 49) rfl))) (mvT hZ (hw _ (List.mem_of_getElem? (i := 50) rfl))) (mvT hZ (hw _ (List.mem_of_getElem? (i := 51) rfl))) (by decide) (backOf (W := 1) (rm8 l Z a0 hw [] (4000000000 : Int64) (4000000000 : Int64) h45 n0 Z45 ) hZ (hw _ (List.mem_of_getElem? (i := 51) rfl)) (hw _ (List.mem_of_getElem? (i := 50) rfl)) (by decide) (by decide)) (g := (mkF m 57 #[.val (.ref ob), .val (.long (u0 + u1)), .second] [(.long (4000000000 : Int64)), (.long (4000000000 : Int64)), (.ref ob)])) rfl (by rw [hml]; rfl) (argsL := [(.long (4000000000 : Int64)), (.long (4000000000 : Int64))]) (rest := [(.ref ob)]) (lenOf own_pd0 rfl) rfl (by show 2 * 0 + _ ≤ _; exact Nat.le_of_eq rfl) (hb hby d4_57) (fun _ _ => ⟨rfl, e49, (by decide : 0 + 0 ≤ _), (by decide : 0 + 0 ≤ _)⟩)
          dsimp only [Pt.U, Pt.locs, Pt.cells, Pt.slots] at X50 l50 y50 z50 st50 hQ50
          rw [l50, y50, z50] at X50
          obtain ⟨rfl, Nq50, eq50⟩ := hQ50
          have N50 := Fr.app N45 Nq50
          refine own_st st50 ?_
          rw [show (own_mn (4000000000 : Int64) (4000000000 : Int64)) = (4000000000 : Int64) from by decide]
          show own_Go _ _ _ _ (T50.setTop (mkF m 60 #[.val (.ref ob), .val (.long (u0 + u1)), .second] [(.long (4000000000 : Int64)), (.ref ob)]))
          obtain ⟨T51, h51, X51, e51, W51, st51⟩ := putF X50 hx hZ hown (host := "") (Or.inl (hw _ (List.mem_of_getElem? (i := 11) rfl))) Via.refl eq50 y45_F_ob_interval y45_E_ob (Or.inl (hw _ (List.mem_of_getElem? (i := 12) rfl))) (hw _ (List.mem_of_getElem? (i := 2) rfl)) (ty := .long) (by decide) rfl rfl (g := (mkF m 60 #[.val (.ref ob), .val (.long (u0 + u1)), .second] [(.long (4000000000 : Int64)), (.ref ob)])) rfl rfl (hb hby d4_60)
          refine own_st st51 ?_
          have Fw51 : Fld Z h51 ob "com/example/troskel/troskel/service/RetransmissionTimer" "interval" "J" (.long (4000000000 : Int64)) := y45_F_ob_interval.same W51
          have y51_E_ob := y45_E_ob.wr W51
          have y51_F_ob_timeoutAt := y45_F_ob_timeoutAt.other W51 (Or.inr (slot_ne (Or.inr (hw _ (List.mem_of_getElem? (i := 15) rfl))) (Or.inl (hw _ (List.mem_of_getElem? (i := 12) rfl))) (by decide) (t := .long) (t' := .long) (by decide) (by decide)))
          have y51_F_ob_next := Fw45.other W51 (Or.inr (slot_ne (Or.inl (hw _ (List.mem_of_getElem? (i := 17) rfl))) (Or.inl (hw _ (List.mem_of_getElem? (i := 12) rfl))) (by decide) (t := .long) (t' := .long) (by decide) (by decide)))
          have y51_F_ob_proceeding := y45_F_ob_proceeding.other W51 (Or.inr (slot_ne (Or.inl (hw _ (List.mem_of_getElem? (i := 44) rfl))) (Or.inl (hw _ (List.mem_of_getElem? (i := 12) rfl))) (by decide) (t := .boolean) (t' := .long) (by decide) (by decide)))
          have Z51 : n0 ≤ h51.size := Nat.le_trans Z45 (Nat.le_of_eq W51.size.symm)
          have N51 := Fr.snoc X51 N50 gnob
          have K51 : Keep h0 h51 [ob] := K45.wr W51 (Or.inl (by simp))
          show own_Go _ _ _ _ (T51.setTop (mkF m 63 #[.val (.ref ob), .val (.long (u0 + u1)), .second] []))
          refine own_st (fun _ k => XS.aloadN X51.here hx rfl (hb hby d4_63) rfl rfl k) ?_
          show own_Go _ _ _ _ (T51.setTop (mkF m 64 #[.val (.ref ob), .val (.long (u0 + u1)), .second] [(.ref ob)]))
          refine own_st (fun _ k => XS.dup X51.here hx rfl (hb hby d4_64) rfl rfl k) ?_
          show own_Go _ _ _ _ (T51.setTop (mkF m 65 #[.val (.ref ob), .val (.long (u0 + u1)), .second] [(.ref ob), (.ref ob)]))
          obtain ⟨T52, X52, e52, st52⟩ := getF X51 hx hZ hown (host := "") (Or.inl (hw _ (List.mem_of_getElem? (i := 16) rfl))) Via.refl e51 y51_F_ob_next (g := (mkF m 65 #[.val (.ref ob), .val (.long (u0 + u1)), .second] [(.ref ob), (.ref ob)])) rfl rfl (hb hby d4_65)
          refine own_st st52 ?_
          show own_Go _ _ _ _ (T52.setTop (mkF m 68 #[.val (.ref ob), .val (.long (u0 + u1)), .second] [(.long (u0 + (3500000000 : Int64))), (.ref ob)]))
          refine own_st (fun _ k => XS.aloadN X52.here hx rfl (hb hby d4_68) rfl rfl k) ?_
          show own_Go _ _ _ _ (T52.setTop (mkF m 69 #[.val (.ref ob), .val (.long (u0 + u1)), .second] [(.ref ob), (.long (u0 + (3500000000 : Int64))), (.ref ob)]))
          obtain ⟨T53, X53, e53, st53⟩ := getF X52 hx hZ hown (host := "") (Or.inl (hw _ (List.mem_of_getElem? (i := 11) rfl))) Via.refl e52 Fw51 (g := (mkF m 69 #[.val (.ref ob), .val (.long (u0 + u1)), .second] [(.ref ob), (.long (u0 + (3500000000 : Int64))), (.ref ob)])) rfl rfl (hb hby d4_69)
          refine own_st st53 ?_
          show own_Go _ _ _ _ (T53.setTop (mkF m 72 #[.val (.ref ob), .val (.long (u0 + u1)), .second] [(.long (4000000000 : Int64)), (.long (u0 + (3500000000 : Int64))), (.ref ob)]))
          refine own_st (fun _ k => XS.ladd X53.here hx rfl (hb hby d4_72) rfl k) ?_
          rw [show ((u0 + (3500000000 : Int64)) + (4000000000 : Int64)) = (u0 + (7500000000 : Int64)) from by rw [Int64.add_assoc, show (3500000000 : Int64) + (4000000000 : Int64) = (7500000000 : Int64) from by decide]]
          show own_Go _ _ _ _ (T53.setTop (mkF m 73 #[.val (.ref ob), .val (.long (u0 + u1)), .second] [(.long (u0 + (7500000000 : Int64))), (.ref ob)]))
          obtain ⟨T54, h54, X54, e54, W54, st54⟩ := putF X53 hx hZ hown (host := "") (Or.inl (hw _ (List.mem_of_getElem? (i := 16) rfl))) Via.refl e53 y51_F_ob_next y51_E_ob (Or.inl (hw _ (List.mem_of_getElem? (i := 17) rfl))) (hw _ (List.mem_of_getElem? (i := 2) rfl)) (ty := .long) (by decide) rfl rfl (g := (mkF m 73 #[.val (.ref ob), .val (.long (u0 + u1)), .second] [(.long (u0 + (7500000000 : Int64))), (.ref ob)])) rfl rfl (hb hby d4_73)
          refine own_st st54 ?_
          have Fw54 : Fld Z h54 ob "com/example/troskel/troskel/service/RetransmissionTimer" "next" "J" (.long (u0 + (7500000000 : Int64))) := y51_F_ob_next.same W54
          have y54_E_ob := y51_E_ob.wr W54
          have y54_F_ob_interval := Fw51.other W54 (Or.inr (slot_ne (Or.inl (hw _ (List.mem_of_getElem? (i := 12) rfl))) (Or.inl (hw _ (List.mem_of_getElem? (i := 17) rfl))) (by decide) (t := .long) (t' := .long) (by decide) (by decide)))
          have y54_F_ob_timeoutAt := y51_F_ob_timeoutAt.other W54 (Or.inr (slot_ne (Or.inr (hw _ (List.mem_of_getElem? (i := 15) rfl))) (Or.inl (hw _ (List.mem_of_getElem? (i := 17) rfl))) (by decide) (t := .long) (t' := .long) (by decide) (by decide)))
          have y54_F_ob_proceeding := y51_F_ob_proceeding.other W54 (Or.inr (slot_ne (Or.inl (hw _ (List.mem_of_getElem? (i := 44) rfl))) (Or.inl (hw _ (List.mem_of_getElem? (i := 17) rfl))) (by decide) (t := .boolean) (t' := .long) (by decide) (by decide)))
          have Z54 : n0 ≤ h54.size := Nat.le_trans Z51 (Nat.le_of_eq W54.size.symm)
          have N54 := Fr.snoc X54 N51 gnob
          have K54 : Keep h0 h54 [ob] := K51.wr W54 (Or.inl (by simp))
          show own_Go _ _ _ _ (T54.setTop (mkF m 76 #[.val (.ref ob), .val (.long (u0 + u1)), .second] []))
          refine own_st (fun _ k => XS.goto X54.here hx rfl (pc0 := 76) (pc' := 21) rfl (hb hby d4_76) (by decide) (by decide) k) ?_
          show own_Go _ _ _ _ (T54.setTop (mkF m 21 #[.val (.ref ob), .val (.long (u0 + u1)), .second] []))
          refine own_st (fun _ k => XS.lloadN X54.here hx rfl (hb hby d4_21) rfl k) ?_
          show own_Go _ _ _ _ (T54.setTop (mkF m 22 #[.val (.ref ob), .val (.long (u0 + u1)), .second] [(.long (u0 + u1))]))
          refine own_st (fun _ k => XS.aloadN X54.here hx rfl (hb hby d4_22) rfl rfl k) ?_
          show own_Go _ _ _ _ (T54.setTop (mkF m 23 #[.val (.ref ob), .val (.long (u0 + u1)), .second] [(.ref ob), (.long (u0 + u1))]))
          obtain ⟨T55, X55, e55, st55⟩ := getF X54 hx hZ hown (host := "") (Or.inl (hw _ (List.mem_of_getElem? (i := 16) rfl))) Via.refl e54 Fw54 (g := (mkF m 23 #[.val (.ref ob), .val (.long (u0 + u1)), .second] [(.ref ob), (.long (u0 + u1))])) rfl rfl (hb hby d4_23)
          refine own_st st55 ?_
          show own_Go _ _ _ _ (T55.setTop (mkF m 26 #[.val (.ref ob), .val (.long (u0 + u1)), .second] [(.long (u0 + (7500000000 : Int64))), (.long (u0 + u1))]))
          refine own_st (fun _ k => XS.lsub X55.here hx rfl (hb hby d4_26) rfl k) ?_
          show own_Go _ _ _ _ (T55.setTop (mkF m 27 #[.val (.ref ob), .val (.long (u0 + u1)), .second] [(.long ((u0 + u1) - (u0 + (7500000000 : Int64))))]))
          refine own_st (fun _ k => XS.lconst X55.here hx rfl (hb hby d4_27) k) ?_
          show own_Go _ _ _ _ (T55.setTop (mkF m 28 #[.val (.ref ob), .val (.long (u0 + u1)), .second] [(.long (0 : Int64)), (.long ((u0 + u1) - (u0 + (7500000000 : Int64))))]))
          refine own_st (fun _ k => XS.lcmp X55.here hx rfl (hb hby d4_28) rfl k) ?_
          show own_Go _ _ _ _ (T55.setTop (mkF m 29 #[.val (.ref ob), .val (.long (u0 + u1)), .second] [(.int (lcmpW ((u0 + u1) - (u0 + (7500000000 : Int64))) (0 : Int64)))]))
          by_cases hc56 : (lcmpW ((u0 + u1) - (u0 + (7500000000 : Int64))) (0 : Int64)) < (0 : Int32)
          · skip
            refine own_st (fun _ k => XS.ifYes X55.here hx rfl (pc0 := 29) (pc' := 79) rfl (hb hby d4_29) rfl ((if0 _ _).trans (tlt hc56).1) (by decide) (by decide) k) ?_
            show own_Go _ _ _ _ (T55.setTop (mkF m 79 #[.val (.ref ob), .val (.long (u0 + u1)), .second] []))
            refine own_st (fun _ k => XS.iconst X55.here hx rfl (hb hby d4_79) k) ?_
            show own_Go _ _ _ _ (T55.setTop (mkF m 80 #[.val (.ref ob), .val (.long (u0 + u1)), .second] [(.int (1 : Int32))]))
            obtain ⟨fs, hr, hrun, hended, hW, hsame⟩ := X55.leave (v := some (.int (1 : Int32))) (fun h => by rw [Bd.returns] at h; cases h)
            refine own_out (retN X55 hx (t := .boolean) Bd.returns (by simp) (hb hby d4_80) hr) ⟨hrun, hended, _, _, rfl, ?_, ⟨_, rfl⟩, hW, hsame.mono (by decide) (by decide)⟩
            show Q4_0 Z ob u0 u1 h0 n0 _ T55.heap _
            have hv : own_nx0 u0 u1 = (u0 + (7500000000 : Int64)) := by
              unfold own_nx0
              rw [if_pos hc26, if_neg hc28, if_neg hc38, if_neg hc47, if_pos hc56]
            rw [e55]
            exact ⟨_, rfl, N54, K54, y54_E_ob, by rw [hv]; exact Fw54, y54_F_ob_timeoutAt⟩
          · skip
            refine own_st (fun _ k => XS.ifNo X55.here hx rfl (hb hby d4_29) rfl ((if0 _ _).trans (flt hc56).1) k) ?_
            show own_Go _ _ _ _ (T55.setTop (mkF m 32 #[.val (.ref ob), .val (.long (u0 + u1)), .second] []))
            refine own_st (fun _ k => XS.aloadN X55.here hx rfl (hb hby d4_32) rfl rfl k) ?_
            show own_Go _ _ _ _ (T55.setTop (mkF m 33 #[.val (.ref ob), .val (.long (u0 + u1)), .second] [(.ref ob)]))
            refine own_st (fun _ k => XS.aloadN X55.here hx rfl (hb hby d4_33) rfl rfl k) ?_
            show own_Go _ _ _ _ (T55.setTop (mkF m 34 #[.val (.ref ob), .val (.long (u0 + u1)), .second] [(.ref ob), (.ref ob)]))
            obtain ⟨T57, X57, e57, st57⟩ := getF X55 hx hZ hown (host := "") (Or.inl (hw _ (List.mem_of_getElem? (i := 43) rfl))) Via.refl e55 y54_F_ob_proceeding (g := (mkF m 34 #[.val (.ref ob), .val (.long (u0 + u1)), .second] [(.ref ob), (.ref ob)])) rfl rfl (hb hby d4_34)
            refine own_st st57 ?_
            show own_Go _ _ _ _ (T57.setTop (mkF m 37 #[.val (.ref ob), .val (.long (u0 + u1)), .second] [(.int (0 : Int32)), (.ref ob)]))
            refine own_st (fun _ k => XS.ifYes X57.here hx rfl (pc0 := 37) (pc' := 46) rfl (hb hby d4_37) rfl ((if0 _ _).trans (teq (by decide : ((0 : Int32) = (0 : Int32)))).1) (by decide) (by decide) k) ?_
            show own_Go _ _ _ _ (T57.setTop (mkF m 46 #[.val (.ref ob), .val (.long (u0 + u1)), .second] [(.ref ob)]))
            refine own_st (fun _ k => X57.ldc2Long hx hown (mvT hZ (hw _ (List.mem_of_getElem? (i := 52) rfl))) (g := (mkF m 46 #[.val (.ref ob), .val (.long (u0 + u1)), .second] [(.ref ob)])) rfl (hb hby d4_46) _ k) ?_
            show own_Go _ _ _ _ (T57.setTop (mkF m 49 #[.val (.ref ob), .val (.long (u0 + u1)), .second] [(.long (2 : Int64)), (.ref ob)]))
            refine own_st (fun _ k => XS.aloadN X57.here hx rfl (hb hby d4_49) rfl rfl k) ?_
            show own_Go _ _ _ _ (T57.setTop (mkF m 50 #[.val (.ref ob), .val (.long (u0 + u1)), .second] [(.ref ob), (.long (2 : Int64)), (.ref ob)]))
            obtain ⟨T58, X58, e58, st58⟩ := getF X57 hx hZ hown (host := "") (Or.inl (hw _ (List.mem_of_getElem? (i := 11) rfl))) Via.refl e57 y54_F_ob_interval (g := (mkF m 50 #[.val (.ref ob), .val (.long (u0 + u1)), .second] [(.ref ob), (.long (2 : Int64)), (.ref ob)])) rfl rfl (hb hby d4_50)
            refine own_st st58 ?_
            show own_Go _ _ _ _ (T58.setTop (mkF m 53 #[.val (.ref ob), .val (.long (u0 + u1)), .second] [(.long (4000000000 : Int64)), (.long (2 : Int64)), (.ref ob)]))
            refine own_st (fun _ k => XS.lmul X58.here hx rfl (hb hby d4_53) rfl k) ?_
            show own_Go _ _ _ _ (T58.setTop (mkF m 54 #[.val (.ref ob), .val (.long (u0 + u1)), .second] [(.long (8000000000 : Int64)), (.ref ob)]))
            refine own_st (fun _ k => X58.ldc2Long hx hown (mvT hZ (hw _ (List.mem_of_getElem? (i := 46) rfl))) (g := (mkF m 54 #[.val (.ref ob), .val (.long (u0 + u1)), .second] [(.long (8000000000 : Int64)), (.ref ob)])) rfl (hb hby d4_54) _ k) ?_
            show own_Go _ _ _ _ (T58.setTop (mkF m 57 #[.val (.ref ob), .val (.long (u0 + u1)), .second] [(.long (4000000000 : Int64)), (.long (8000000000 : Int64)), (.ref ob)]))
            obtain ⟨_, _, ⟨T59, L59, k59, n59⟩, -, X59, ⟨Lc59, hQ59, l59, y59, z59⟩, st59⟩ := Jvm.LawKit.callS X58 hx (y := (⟨"java/lang/Math", "min", "(JJ)J"⟩ : MethodName)) hown (mvT hZ (hw _ (List.mem_of_getElem? (i := 53) rfl))) (mvT hZ (hw _ (List.mem_of_getElem? (i := 49) rfl))) (mvT hZ (hw _ (List.mem_of_getElem? (i := 50) rfl))) (mvT hZ (hw _ (List.mem_of_getElem? (i := 51) rfl))) (by decide) (backOf (W := 1) (rm8 l Z a0 hw [] (8000000000 : Int64) (4000000000 : Int64) h54 n0 Z54 ) hZ (hw _ (List.mem_of_getElem? (i := 51) rfl)) (hw _ (List.mem_of_getElem? (i := 50) rfl)) (by decide) (by decide)) (g := (mkF m 57 #[.val (.ref ob), .val (.long (u0 + u1)), .second] [(.long (4000000000 : Int64)), (.long (8000000000 : Int64)), (.ref ob)])) rfl (by rw [hml]; rfl) (argsL := [(.long (8000000000 : Int64)), (.long (4000000000 : Int64))]) (rest := [(.ref ob)]) (lenOf own_pd0 rfl) rfl (by show 2 * 0 + _ ≤ _; exact Nat.le_of_eq rfl) (hb hby d4_57) (fun _ _ => ⟨rfl, e58, (by decide : 0 + 0 ≤ _), (by decide : 0 + 0 ≤ _)⟩)
            dsimp only [Pt.U, Pt.locs, Pt.cells, Pt.slots] at X59 l59 y59 z59 st59 hQ59
            rw [l59, y59, z59] at X59
            obtain ⟨rfl, Nq59, eq59⟩ := hQ59
            have N59 := Fr.app N54 Nq59
            refine own_st st59 ?_
            rw [show (own_mn (8000000000 : Int64) (4000000000 : Int64)) = (4000000000 : Int64) from by decide]
            show own_Go _ _ _ _ (T59.setTop (mkF m 60 #[.val (.ref ob), .val (.long (u0 + u1)), .second] [(.long (4000000000 : Int64)), (.ref ob)]))
            obtain ⟨T60, h60, X60, e60, W60, st60⟩ := putF X59 hx hZ hown (host := "") (Or.inl (hw _ (List.mem_of_getElem? (i := 11) rfl))) Via.refl eq59 y54_F_ob_interval y54_E_ob (Or.inl (hw _ (List.mem_of_getElem? (i := 12) rfl))) (hw _ (List.mem_of_getElem? (i := 2) rfl)) (ty := .long) (by decide) rfl rfl (g := (mkF m 60 #[.val (.ref ob), .val (.long (u0 + u1)), .second] [(.long (4000000000 : Int64)), (.ref ob)])) rfl rfl (hb hby d4_60)
            refine own_st st60 ?_
            have Fw60 : Fld Z h60 ob "com/example/troskel/troskel/service/RetransmissionTimer" "interval" "J" (.long (4000000000 : Int64)) := y54_F_ob_interval.same W60
            have y60_E_ob := y54_E_ob.wr W60
            have y60_F_ob_timeoutAt := y54_F_ob_timeoutAt.other W60 (Or.inr (slot_ne (Or.inr (hw _ (List.mem_of_getElem? (i := 15) rfl))) (Or.inl (hw _ (List.mem_of_getElem? (i := 12) rfl))) (by decide) (t := .long) (t' := .long) (by decide) (by decide)))
            have y60_F_ob_next := Fw54.other W60 (Or.inr (slot_ne (Or.inl (hw _ (List.mem_of_getElem? (i := 17) rfl))) (Or.inl (hw _ (List.mem_of_getElem? (i := 12) rfl))) (by decide) (t := .long) (t' := .long) (by decide) (by decide)))
            have y60_F_ob_proceeding := y54_F_ob_proceeding.other W60 (Or.inr (slot_ne (Or.inl (hw _ (List.mem_of_getElem? (i := 44) rfl))) (Or.inl (hw _ (List.mem_of_getElem? (i := 12) rfl))) (by decide) (t := .boolean) (t' := .long) (by decide) (by decide)))
            have Z60 : n0 ≤ h60.size := Nat.le_trans Z54 (Nat.le_of_eq W60.size.symm)
            have N60 := Fr.snoc X60 N59 gnob
            have K60 : Keep h0 h60 [ob] := K54.wr W60 (Or.inl (by simp))
            show own_Go _ _ _ _ (T60.setTop (mkF m 63 #[.val (.ref ob), .val (.long (u0 + u1)), .second] []))
            refine own_st (fun _ k => XS.aloadN X60.here hx rfl (hb hby d4_63) rfl rfl k) ?_
            show own_Go _ _ _ _ (T60.setTop (mkF m 64 #[.val (.ref ob), .val (.long (u0 + u1)), .second] [(.ref ob)]))
            refine own_st (fun _ k => XS.dup X60.here hx rfl (hb hby d4_64) rfl rfl k) ?_
            show own_Go _ _ _ _ (T60.setTop (mkF m 65 #[.val (.ref ob), .val (.long (u0 + u1)), .second] [(.ref ob), (.ref ob)]))
            obtain ⟨T61, X61, e61, st61⟩ := getF X60 hx hZ hown (host := "") (Or.inl (hw _ (List.mem_of_getElem? (i := 16) rfl))) Via.refl e60 y60_F_ob_next (g := (mkF m 65 #[.val (.ref ob), .val (.long (u0 + u1)), .second] [(.ref ob), (.ref ob)])) rfl rfl (hb hby d4_65)
            refine own_st st61 ?_
            show own_Go _ _ _ _ (T61.setTop (mkF m 68 #[.val (.ref ob), .val (.long (u0 + u1)), .second] [(.long (u0 + (7500000000 : Int64))), (.ref ob)]))
            refine own_st (fun _ k => XS.aloadN X61.here hx rfl (hb hby d4_68) rfl rfl k) ?_
            show own_Go _ _ _ _ (T61.setTop (mkF m 69 #[.val (.ref ob), .val (.long (u0 + u1)), .second] [(.ref ob), (.long (u0 + (7500000000 : Int64))), (.ref ob)]))
            obtain ⟨T62, X62, e62, st62⟩ := getF X61 hx hZ hown (host := "") (Or.inl (hw _ (List.mem_of_getElem? (i := 11) rfl))) Via.refl e61 Fw60 (g := (mkF m 69 #[.val (.ref ob), .val (.long (u0 + u1)), .second] [(.ref ob), (.long (u0 + (7500000000 : Int64))), (.ref ob)])) rfl rfl (hb hby d4_69)
            refine own_st st62 ?_
            show own_Go _ _ _ _ (T62.setTop (mkF m 72 #[.val (.ref ob), .val (.long (u0 + u1)), .second] [(.long (4000000000 : Int64)), (.long (u0 + (7500000000 : Int64))), (.ref ob)]))
            refine own_st (fun _ k => XS.ladd X62.here hx rfl (hb hby d4_72) rfl k) ?_
            rw [show ((u0 + (7500000000 : Int64)) + (4000000000 : Int64)) = (u0 + (11500000000 : Int64)) from by rw [Int64.add_assoc, show (7500000000 : Int64) + (4000000000 : Int64) = (11500000000 : Int64) from by decide]]
            show own_Go _ _ _ _ (T62.setTop (mkF m 73 #[.val (.ref ob), .val (.long (u0 + u1)), .second] [(.long (u0 + (11500000000 : Int64))), (.ref ob)]))
            obtain ⟨T63, h63, X63, e63, W63, st63⟩ := putF X62 hx hZ hown (host := "") (Or.inl (hw _ (List.mem_of_getElem? (i := 16) rfl))) Via.refl e62 y60_F_ob_next y60_E_ob (Or.inl (hw _ (List.mem_of_getElem? (i := 17) rfl))) (hw _ (List.mem_of_getElem? (i := 2) rfl)) (ty := .long) (by decide) rfl rfl (g := (mkF m 73 #[.val (.ref ob), .val (.long (u0 + u1)), .second] [(.long (u0 + (11500000000 : Int64))), (.ref ob)])) rfl rfl (hb hby d4_73)
            refine own_st st63 ?_
            have Fw63 : Fld Z h63 ob "com/example/troskel/troskel/service/RetransmissionTimer" "next" "J" (.long (u0 + (11500000000 : Int64))) := y60_F_ob_next.same W63
            have y63_E_ob := y60_E_ob.wr W63
            have y63_F_ob_interval := Fw60.other W63 (Or.inr (slot_ne (Or.inl (hw _ (List.mem_of_getElem? (i := 12) rfl))) (Or.inl (hw _ (List.mem_of_getElem? (i := 17) rfl))) (by decide) (t := .long) (t' := .long) (by decide) (by decide)))
            have y63_F_ob_timeoutAt := y60_F_ob_timeoutAt.other W63 (Or.inr (slot_ne (Or.inr (hw _ (List.mem_of_getElem? (i := 15) rfl))) (Or.inl (hw _ (List.mem_of_getElem? (i := 17) rfl))) (by decide) (t := .long) (t' := .long) (by decide) (by decide)))
            have y63_F_ob_proceeding := y60_F_ob_proceeding.other W63 (Or.inr (slot_ne (Or.inl (hw _ (List.mem_of_getElem? (i := 44) rfl))) (Or.inl (hw _ (List.mem_of_getElem? (i := 17) rfl))) (by decide) (t := .boolean) (t' := .long) (by decide) (by decide)))
            have Z63 : n0 ≤ h63.size := Nat.le_trans Z60 (Nat.le_of_eq W63.size.symm)
            have N63 := Fr.snoc X63 N60 gnob
            have K63 : Keep h0 h63 [ob] := K60.wr W63 (Or.inl (by simp))
            show own_Go _ _ _ _ (T63.setTop (mkF m 76 #[.val (.ref ob), .val (.long (u0 + u1)), .second] []))
            refine own_st (fun _ k => XS.goto X63.here hx rfl (pc0 := 76) (pc' := 21) rfl (hb hby d4_76) (by decide) (by decide) k) ?_
            show own_Go _ _ _ _ (T63.setTop (mkF m 21 #[.val (.ref ob), .val (.long (u0 + u1)), .second] []))
            refine own_st (fun _ k => XS.lloadN X63.here hx rfl (hb hby d4_21) rfl k) ?_
            show own_Go _ _ _ _ (T63.setTop (mkF m 22 #[.val (.ref ob), .val (.long (u0 + u1)), .second] [(.long (u0 + u1))]))
            refine own_st (fun _ k => XS.aloadN X63.here hx rfl (hb hby d4_22) rfl rfl k) ?_
            show own_Go _ _ _ _ (T63.setTop (mkF m 23 #[.val (.ref ob), .val (.long (u0 + u1)), .second] [(.ref ob), (.long (u0 + u1))]))
            obtain ⟨T64, X64, e64, st64⟩ := getF X63 hx hZ hown (host := "") (Or.inl (hw _ (List.mem_of_getElem? (i := 16) rfl))) Via.refl e63 Fw63 (g := (mkF m 23 #[.val (.ref ob), .val (.long (u0 + u1)), .second] [(.ref ob), (.long (u0 + u1))])) rfl rfl (hb hby d4_23)
            refine own_st st64 ?_
            show own_Go _ _ _ _ (T64.setTop (mkF m 26 #[.val (.ref ob), .val (.long (u0 + u1)), .second] [(.long (u0 + (11500000000 : Int64))), (.long (u0 + u1))]))
            refine own_st (fun _ k => XS.lsub X64.here hx rfl (hb hby d4_26) rfl k) ?_
            show own_Go _ _ _ _ (T64.setTop (mkF m 27 #[.val (.ref ob), .val (.long (u0 + u1)), .second] [(.long ((u0 + u1) - (u0 + (11500000000 : Int64))))]))
            refine own_st (fun _ k => XS.lconst X64.here hx rfl (hb hby d4_27) k) ?_
            show own_Go _ _ _ _ (T64.setTop (mkF m 28 #[.val (.ref ob), .val (.long (u0 + u1)), .second] [(.long (0 : Int64)), (.long ((u0 + u1) - (u0 + (11500000000 : Int64))))]))
            refine own_st (fun _ k => XS.lcmp X64.here hx rfl (hb hby d4_28) rfl k) ?_
            show own_Go _ _ _ _ (T64.setTop (mkF m 29 #[.val (.ref ob), .val (.long (u0 + u1)), .second] [(.int (lcmpW ((u0 + u1) - (u0 + (11500000000 : Int64))) (0 : Int64)))]))
            by_cases hc65 : (lcmpW ((u0 + u1) - (u0 + (11500000000 : Int64))) (0 : Int64)) < (0 : Int32)
            · skip
              refine own_st (fun _ k => XS.ifYes X64.here hx rfl (pc0 := 29) (pc' := 79) rfl (hb hby d4_29) rfl ((if0 _ _).trans (tlt hc65).1) (by decide) (by decide) k) ?_
              show own_Go _ _ _ _ (T64.setTop (mkF m 79 #[.val (.ref ob), .val (.long (u0 + u1)), .second] []))
              refine own_st (fun _ k => XS.iconst X64.here hx rfl (hb hby d4_79) k) ?_
              show own_Go _ _ _ _ (T64.setTop (mkF m 80 #[.val (.ref ob), .val (.long (u0 + u1)), .second] [(.int (1 : Int32))]))
              obtain ⟨fs, hr, hrun, hended, hW, hsame⟩ := X64.leave (v := some (.int (1 : Int32))) (fun h => by rw [Bd.returns] at h; cases h)
              refine own_out (retN X64 hx (t := .boolean) Bd.returns (by simp) (hb hby d4_80) hr) ⟨hrun, hended, _, _, rfl, ?_, ⟨_, rfl⟩, hW, hsame.mono (by decide) (by decide)⟩
              show Q4_0 Z ob u0 u1 h0 n0 _ T64.heap _
              have hv : own_nx0 u0 u1 = (u0 + (11500000000 : Int64)) := by
                unfold own_nx0
                rw [if_pos hc26, if_neg hc28, if_neg hc38, if_neg hc47, if_neg hc56, if_pos hc65]
              rw [e64]
              exact ⟨_, rfl, N63, K63, y63_E_ob, by rw [hv]; exact Fw63, y63_F_ob_timeoutAt⟩
            · skip
              refine own_st (fun _ k => XS.ifNo X64.here hx rfl (hb hby d4_29) rfl ((if0 _ _).trans (flt hc65).1) k) ?_
              show own_Go _ _ _ _ (T64.setTop (mkF m 32 #[.val (.ref ob), .val (.long (u0 + u1)), .second] []))
              refine own_st (fun _ k => XS.aloadN X64.here hx rfl (hb hby d4_32) rfl rfl k) ?_
              show own_Go _ _ _ _ (T64.setTop (mkF m 33 #[.val (.ref ob), .val (.long (u0 + u1)), .second] [(.ref ob)]))
              refine own_st (fun _ k => XS.aloadN X64.here hx rfl (hb hby d4_33) rfl rfl k) ?_
              show own_Go _ _ _ _ (T64.setTop (mkF m 34 #[.val (.ref ob), .val (.long (u0 + u1)), .second] [(.ref ob), (.ref ob)]))
              obtain ⟨T66, X66, e66, st66⟩ := getF X64 hx hZ hown (host := "") (Or.inl (hw _ (List.mem_of_getElem? (i := 43) rfl))) Via.refl e64 y63_F_ob_proceeding (g := (mkF m 34 #[.val (.ref ob), .val (.long (u0 + u1)), .second] [(.ref ob), (.ref ob)])) rfl rfl (hb hby d4_34)
              refine own_st st66 ?_
              show own_Go _ _ _ _ (T66.setTop (mkF m 37 #[.val (.ref ob), .val (.long (u0 + u1)), .second] [(.int (0 : Int32)), (.ref ob)]))
              refine own_st (fun _ k => XS.ifYes X66.here hx rfl (pc0 := 37) (pc' := 46) rfl (hb hby d4_37) rfl ((if0 _ _).trans (teq (by decide : ((0 : Int32) = (0 : Int32)))).1) (by decide) (by decide) k) ?_
              show own_Go _ _ _ _ (T66.setTop (mkF m 46 #[.val (.ref ob), .val (.long (u0 + u1)), .second] [(.ref ob)]))
              refine own_st (fun _ k => X66.ldc2Long hx hown (mvT hZ (hw _ (List.mem_of_getElem? (i := 52) rfl))) (g := (mkF m 46 #[.val (.ref ob), .val (.long (u0 + u1)), .second] [(.ref ob)])) rfl (hb hby d4_46) _ k) ?_
              show own_Go _ _ _ _ (T66.setTop (mkF m 49 #[.val (.ref ob), .val (.long (u0 + u1)), .second] [(.long (2 : Int64)), (.ref ob)]))
              refine own_st (fun _ k => XS.aloadN X66.here hx rfl (hb hby d4_49) rfl rfl k) ?_
              show own_Go _ _ _ _ (T66.setTop (mkF m 50 #[.val (.ref ob), .val (.long (u0 + u1)), .second] [(.ref ob), (.long (2 : Int64)), (.ref ob)]))
              obtain ⟨T67, X67, e67, st67⟩ := getF X66 hx hZ hown (host := "") (Or.inl (hw _ (List.mem_of_getElem? (i := 11) rfl))) Via.refl e66 y63_F_ob_interval (g := (mkF m 50 #[.val (.ref ob), .val (.long (u0 + u1)), .second] [(.ref ob), (.long (2 : Int64)), (.ref ob)])) rfl rfl (hb hby d4_50)
              refine own_st st67 ?_
              show own_Go _ _ _ _ (T67.setTop (mkF m 53 #[.val (.ref ob), .val (.long (u0 + u1)), .second] [(.long (4000000000 : Int64)), (.long (2 : Int64)), (.ref ob)]))
              refine own_st (fun _ k => XS.lmul X67.here hx rfl (hb hby d4_53) rfl k) ?_
              show own_Go _ _ _ _ (T67.setTop (mkF m 54 #[.val (.ref ob), .val (.long (u0 + u1)), .second] [(.long (8000000000 : Int64)), (.ref ob)]))
              refine own_st (fun _ k => X67.ldc2Long hx hown (mvT hZ (hw _ (List.mem_of_getElem? (i := 46) rfl))) (g := (mkF m 54 #[.val (.ref ob), .val (.long (u0 + u1)), .second] [(.long (8000000000 : Int64)), (.ref ob)])) rfl (hb hby d4_54) _ k) ?_
              show own_Go _ _ _ _ (T67.setTop (mkF m 57 #[.val (.ref ob), .val (.long (u0 + u1)), .second] [(.long (4000000000 : Int64)), (.long (8000000000 : Int64)), (.ref ob)]))
              obtain ⟨_, _, ⟨T68, L68, k68, n68⟩, -, X68, ⟨Lc68, hQ68, l68, y68, z68⟩, st68⟩ := Jvm.LawKit.callS X67 hx (y := (⟨"java/lang/Math", "min", "(JJ)J"⟩ : MethodName)) hown (mvT hZ (hw _ (List.mem_of_getElem? (i := 53) rfl))) (mvT hZ (hw _ (List.mem_of_getElem? (i := 49) rfl))) (mvT hZ (hw _ (List.mem_of_getElem? (i := 50) rfl))) (mvT hZ (hw _ (List.mem_of_getElem? (i := 51) rfl))) (by decide) (backOf (W := 1) (rm8 l Z a0 hw [] (8000000000 : Int64) (4000000000 : Int64) h63 n0 Z63 ) hZ (hw _ (List.mem_of_getElem? (i := 51) rfl)) (hw _ (List.mem_of_getElem? (i := 50) rfl)) (by decide) (by decide)) (g := (mkF m 57 #[.val (.ref ob), .val (.long (u0 + u1)), .second] [(.long (4000000000 : Int64)), (.long (8000000000 : Int64)), (.ref ob)])) rfl (by rw [hml]; rfl) (argsL := [(.long (8000000000 : Int64)), (.long (4000000000 : Int64))]) (rest := [(.ref ob)]) (lenOf own_pd0 rfl) rfl (by show 2 * 0 + _ ≤ _; exact Nat.le_of_eq rfl) (hb hby d4_57) (fun _ _ => ⟨rfl, e67, (by decide : 0 + 0 ≤ _), (by decide : 0 + 0 ≤ _)⟩)
              dsimp only [Pt.U, Pt.locs, Pt.cells, Pt.slots] at X68 l68 y68 z68 st68 hQ68
              rw [l68, y68, z68] at X68
              obtain ⟨rfl, Nq68, eq68⟩ := hQ68
              have N68 := Fr.app N63 Nq68
              refine own_st st68 ?_
              rw [show (own_mn (8000000000 : Int64) (4000000000 : Int64)) = (4000000000 : Int64) from by decide]
              show own_Go _ _ _ _ (T68.setTop (mkF m 60 #[.val (.ref ob), .val (.long (u0 + u1)), .second] [(.long (4000000000 : Int64)), (.ref ob)]))
              obtain ⟨T69, h69, X69, e69, W69, st69⟩ := putF X68 hx hZ hown (host := "") (Or.inl (hw _ (List.mem_of_getElem? (i := 11) rfl))) Via.refl eq68 y63_F_ob_interval y63_E_ob (Or.inl (hw _ (List.mem_of_getElem? (i := 12) rfl))) (hw _ (List.mem_of_getElem? (i := 2) rfl)) (ty := .long) (by decide) rfl rfl (g := (mkF m 60 #[.val (.ref ob), .val (.long (u0 + u1)), .second] [(.long (4000000000 : Int64)), (.ref ob)])) rfl rfl (hb hby d4_60)
              refine own_st st69 ?_
              have Fw69 : Fld Z h69 ob "com/example/troskel/troskel/service/RetransmissionTimer" "interval" "J" (.long (4000000000 : Int64)) := y63_F_ob_interval.same W69
              have y69_E_ob := y63_E_ob.wr W69
              have y69_F_ob_timeoutAt := y63_F_ob_timeoutAt.other W69 (Or.inr (slot_ne (Or.inr (hw _ (List.mem_of_getElem? (i := 15) rfl))) (Or.inl (hw _ (List.mem_of_getElem? (i := 12) rfl))) (by decide) (t := .long) (t' := .long) (by decide) (by decide)))
              have y69_F_ob_next := Fw63.other W69 (Or.inr (slot_ne (Or.inl (hw _ (List.mem_of_getElem? (i := 17) rfl))) (Or.inl (hw _ (List.mem_of_getElem? (i := 12) rfl))) (by decide) (t := .long) (t' := .long) (by decide) (by decide)))
              have y69_F_ob_proceeding := y63_F_ob_proceeding.other W69 (Or.inr (slot_ne (Or.inl (hw _ (List.mem_of_getElem? (i := 44) rfl))) (Or.inl (hw _ (List.mem_of_getElem? (i := 12) rfl))) (by decide) (t := .boolean) (t' := .long) (by decide) (by decide)))
              have Z69 : n0 ≤ h69.size := Nat.le_trans Z63 (Nat.le_of_eq W69.size.symm)
              have N69 := Fr.snoc X69 N68 gnob
              have K69 : Keep h0 h69 [ob] := K63.wr W69 (Or.inl (by simp))
              show own_Go _ _ _ _ (T69.setTop (mkF m 63 #[.val (.ref ob), .val (.long (u0 + u1)), .second] []))
              refine own_st (fun _ k => XS.aloadN X69.here hx rfl (hb hby d4_63) rfl rfl k) ?_
              show own_Go _ _ _ _ (T69.setTop (mkF m 64 #[.val (.ref ob), .val (.long (u0 + u1)), .second] [(.ref ob)]))
              refine own_st (fun _ k => XS.dup X69.here hx rfl (hb hby d4_64) rfl rfl k) ?_
              show own_Go _ _ _ _ (T69.setTop (mkF m 65 #[.val (.ref ob), .val (.long (u0 + u1)), .second] [(.ref ob), (.ref ob)]))
              obtain ⟨T70, X70, e70, st70⟩ := getF X69 hx hZ hown (host := "") (Or.inl (hw _ (List.mem_of_getElem? (i := 16) rfl))) Via.refl e69 y69_F_ob_next (g := (mkF m 65 #[.val (.ref ob), .val (.long (u0 + u1)), .second] [(.ref ob), (.ref ob)])) rfl rfl (hb hby d4_65)
              refine own_st st70 ?_
              show own_Go _ _ _ _ (T70.setTop (mkF m 68 #[.val (.ref ob), .val (.long (u0 + u1)), .second] [(.long (u0 + (11500000000 : Int64))), (.ref ob)]))
              refine own_st (fun _ k => XS.aloadN X70.here hx rfl (hb hby d4_68) rfl rfl k) ?_
              show own_Go _ _ _ _ (T70.setTop (mkF m 69 #[.val (.ref ob), .val (.long (u0 + u1)), .second] [(.ref ob), (.long (u0 + (11500000000 : Int64))), (.ref ob)]))
              obtain ⟨T71, X71, e71, st71⟩ := getF X70 hx hZ hown (host := "") (Or.inl (hw _ (List.mem_of_getElem? (i := 11) rfl))) Via.refl e70 Fw69 (g := (mkF m 69 #[.val (.ref ob), .val (.long (u0 + u1)), .second] [(.ref ob), (.long (u0 + (11500000000 : Int64))), (.ref ob)])) rfl rfl (hb hby d4_69)
              refine own_st st71 ?_
              show own_Go _ _ _ _ (T71.setTop (mkF m 72 #[.val (.ref ob), .val (.long (u0 + u1)), .second] [(.long (4000000000 : Int64)), (.long (u0 + (11500000000 : Int64))), (.ref ob)]))
              refine own_st (fun _ k => XS.ladd X71.here hx rfl (hb hby d4_72) rfl k) ?_
              rw [show ((u0 + (11500000000 : Int64)) + (4000000000 : Int64)) = (u0 + (15500000000 : Int64)) from by rw [Int64.add_assoc, show (11500000000 : Int64) + (4000000000 : Int64) = (15500000000 : Int64) from by decide]]
              show own_Go _ _ _ _ (T71.setTop (mkF m 73 #[.val (.ref ob), .val (.long (u0 + u1)), .second] [(.long (u0 + (15500000000 : Int64))), (.ref ob)]))
              obtain ⟨T72, h72, X72, e72, W72, st72⟩ := putF X71 hx hZ hown (host := "") (Or.inl (hw _ (List.mem_of_getElem? (i := 16) rfl))) Via.refl e71 y69_F_ob_next y69_E_ob (Or.inl (hw _ (List.mem_of_getElem? (i := 17) rfl))) (hw _ (List.mem_of_getElem? (i := 2) rfl)) (ty := .long) (by decide) rfl rfl (g := (mkF m 73 #[.val (.ref ob), .val (.long (u0 + u1)), .second] [(.long (u0 + (15500000000 : Int64))), (.ref ob)])) rfl rfl (hb hby d4_73)
              refine own_st st72 ?_
              have Fw72 : Fld Z h72 ob "com/example/troskel/troskel/service/RetransmissionTimer" "next" "J" (.long (u0 + (15500000000 : Int64))) := y69_F_ob_next.same W72
              have y72_E_ob := y69_E_ob.wr W72
              have y72_F_ob_interval := Fw69.other W72 (Or.inr (slot_ne (Or.inl (hw _ (List.mem_of_getElem? (i := 12) rfl))) (Or.inl (hw _ (List.mem_of_getElem? (i := 17) rfl))) (by decide) (t := .long) (t' := .long) (by decide) (by decide)))
              have y72_F_ob_timeoutAt := y69_F_ob_timeoutAt.other W72 (Or.inr (slot_ne (Or.inr (hw _ (List.mem_of_getElem? (i := 15) rfl))) (Or.inl (hw _ (List.mem_of_getElem? (i := 17) rfl))) (by decide) (t := .long) (t' := .long) (by decide) (by decide)))
              have y72_F_ob_proceeding := y69_F_ob_proceeding.other W72 (Or.inr (slot_ne (Or.inl (hw _ (List.mem_of_getElem? (i := 44) rfl))) (Or.inl (hw _ (List.mem_of_getElem? (i := 17) rfl))) (by decide) (t := .boolean) (t' := .long) (by decide) (by decide)))
              have Z72 : n0 ≤ h72.size := Nat.le_trans Z69 (Nat.le_of_eq W72.size.symm)
              have N72 := Fr.snoc X72 N69 gnob
              have K72 : Keep h0 h72 [ob] := K69.wr W72 (Or.inl (by simp))
              show own_Go _ _ _ _ (T72.setTop (mkF m 76 #[.val (.ref ob), .val (.long (u0 + u1)), .second] []))
              refine own_st (fun _ k => XS.goto X72.here hx rfl (pc0 := 76) (pc' := 21) rfl (hb hby d4_76) (by decide) (by decide) k) ?_
              show own_Go _ _ _ _ (T72.setTop (mkF m 21 #[.val (.ref ob), .val (.long (u0 + u1)), .second] []))
              refine own_st (fun _ k => XS.lloadN X72.here hx rfl (hb hby d4_21) rfl k) ?_
              show own_Go _ _ _ _ (T72.setTop (mkF m 22 #[.val (.ref ob), .val (.long (u0 + u1)), .second] [(.long (u0 + u1))]))
              refine own_st (fun _ k => XS.aloadN X72.here hx rfl (hb hby d4_22) rfl rfl k) ?_
              show own_Go _ _ _ _ (T72.setTop (mkF m 23 #[.val (.ref ob), .val (.long (u0 + u1)), .second] [(.ref ob), (.long (u0 + u1))]))
              obtain ⟨T73, X73, e73, st73⟩ := getF X72 hx hZ hown (host := "") (Or.inl (hw _ (List.mem_of_getElem? (i := 16) rfl))) Via.refl e72 Fw72 (g := (mkF m 23 #[.val (.ref ob), .val (.long (u0 + u1)), .second] [(.ref ob), (.long (u0 + u1))])) rfl rfl (hb hby d4_23)
              refine own_st st73 ?_
              show own_Go _ _ _ _ (T73.setTop (mkF m 26 #[.val (.ref ob), .val (.long (u0 + u1)), .second] [(.long (u0 + (15500000000 : Int64))), (.long (u0 + u1))]))
              refine own_st (fun _ k => XS.lsub X73.here hx rfl (hb hby d4_26) rfl k) ?_
              show own_Go _ _ _ _ (T73.setTop (mkF m 27 #[.val (.ref ob), .val (.long (u0 + u1)), .second] [(.long ((u0 + u1) - (u0 + (15500000000 : Int64))))]))
              refine own_st (fun _ k => XS.lconst X73.here hx rfl (hb hby d4_27) k) ?_
              show own_Go _ _ _ _ (T73.setTop (mkF m 28 #[.val (.ref ob), .val (.long (u0 + u1)), .second] [(.long (0 : Int64)), (.long ((u0 + u1) - (u0 + (15500000000 : Int64))))]))
              refine own_st (fun _ k => XS.lcmp X73.here hx rfl (hb hby d4_28) rfl k) ?_
              show own_Go _ _ _ _ (T73.setTop (mkF m 29 #[.val (.ref ob), .val (.long (u0 + u1)), .second] [(.int (lcmpW ((u0 + u1) - (u0 + (15500000000 : Int64))) (0 : Int64)))]))
              by_cases hc74 : (lcmpW ((u0 + u1) - (u0 + (15500000000 : Int64))) (0 : Int64)) < (0 : Int32)
              · skip
                refine own_st (fun _ k => XS.ifYes X73.here hx rfl (pc0 := 29) (pc' := 79) rfl (hb hby d4_29) rfl ((if0 _ _).trans (tlt hc74).1) (by decide) (by decide) k) ?_
                show own_Go _ _ _ _ (T73.setTop (mkF m 79 #[.val (.ref ob), .val (.long (u0 + u1)), .second] []))
                refine own_st (fun _ k => XS.iconst X73.here hx rfl (hb hby d4_79) k) ?_
                show own_Go _ _ _ _ (T73.setTop (mkF m 80 #[.val (.ref ob), .val (.long (u0 + u1)), .second] [(.int (1 : Int32))]))
                obtain ⟨fs, hr, hrun, hended, hW, hsame⟩ := X73.leave (v := some (.int (1 : Int32))) (fun h => by rw [Bd.returns] at h; cases h)
                refine own_out (retN X73 hx (t := .boolean) Bd.returns (by simp) (hb hby d4_80) hr) ⟨hrun, hended, _, _, rfl, ?_, ⟨_, rfl⟩, hW, hsame.mono (by decide) (by decide)⟩
                show Q4_0 Z ob u0 u1 h0 n0 _ T73.heap _
                have hv : own_nx0 u0 u1 = (u0 + (15500000000 : Int64)) := by
                  unfold own_nx0
                  rw [if_pos hc26, if_neg hc28, if_neg hc38, if_neg hc47, if_neg hc56, if_neg hc65, if_pos hc74]
                rw [e73]
                exact ⟨_, rfl, N72, K72, y72_E_ob, by rw [hv]; exact Fw72, y72_F_ob_timeoutAt⟩
              · skip
                refine own_st (fun _ k => XS.ifNo X73.here hx rfl (hb hby d4_29) rfl ((if0 _ _).trans (flt hc74).1) k) ?_
                show own_Go _ _ _ _ (T73.setTop (mkF m 32 #[.val (.ref ob), .val (.long (u0 + u1)), .second] []))
                refine own_st (fun _ k => XS.aloadN X73.here hx rfl (hb hby d4_32) rfl rfl k) ?_
                show own_Go _ _ _ _ (T73.setTop (mkF m 33 #[.val (.ref ob), .val (.long (u0 + u1)), .second] [(.ref ob)]))
                refine own_st (fun _ k => XS.aloadN X73.here hx rfl (hb hby d4_33) rfl rfl k) ?_
                show own_Go _ _ _ _ (T73.setTop (mkF m 34 #[.val (.ref ob), .val (.long (u0 + u1)), .second] [(.ref ob), (.ref ob)]))
                obtain ⟨T75, X75, e75, st75⟩ := getF X73 hx hZ hown (host := "") (Or.inl (hw _ (List.mem_of_getElem? (i := 43) rfl))) Via.refl e73 y72_F_ob_proceeding (g := (mkF m 34 #[.val (.ref ob), .val (.long (u0 + u1)), .second] [(.ref ob), (.ref ob)])) rfl rfl (hb hby d4_34)
                refine own_st st75 ?_
                show own_Go _ _ _ _ (T75.setTop (mkF m 37 #[.val (.ref ob), .val (.long (u0 + u1)), .second] [(.int (0 : Int32)), (.ref ob)]))
                refine own_st (fun _ k => XS.ifYes X75.here hx rfl (pc0 := 37) (pc' := 46) rfl (hb hby d4_37) rfl ((if0 _ _).trans (teq (by decide : ((0 : Int32) = (0 : Int32)))).1) (by decide) (by decide) k) ?_
                show own_Go _ _ _ _ (T75.setTop (mkF m 46 #[.val (.ref ob), .val (.long (u0 + u1)), .second] [(.ref ob)]))
                refine own_st (fun _ k => X75.ldc2Long hx hown (mvT hZ (hw _ (List.mem_of_getElem? (i := 52) rfl))) (g := (mkF m 46 #[.val (.ref ob), .val (.long (u0 + u1)), .second] [(.ref ob)])) rfl (hb hby d4_46) _ k) ?_
                show own_Go _ _ _ _ (T75.setTop (mkF m 49 #[.val (.ref ob), .val (.long (u0 + u1)), .second] [(.long (2 : Int64)), (.ref ob)]))
                refine own_st (fun _ k => XS.aloadN X75.here hx rfl (hb hby d4_49) rfl rfl k) ?_
                show own_Go _ _ _ _ (T75.setTop (mkF m 50 #[.val (.ref ob), .val (.long (u0 + u1)), .second] [(.ref ob), (.long (2 : Int64)), (.ref ob)]))
                obtain ⟨T76, X76, e76, st76⟩ := getF X75 hx hZ hown (host := "") (Or.inl (hw _ (List.mem_of_getElem? (i := 11) rfl))) Via.refl e75 y72_F_ob_interval (g := (mkF m 50 #[.val (.ref ob), .val (.long (u0 + u1)), .second] [(.ref ob), (.long (2 : Int64)), (.ref ob)])) rfl rfl (hb hby d4_50)
                refine own_st st76 ?_
                show own_Go _ _ _ _ (T76.setTop (mkF m 53 #[.val (.ref ob), .val (.long (u0 + u1)), .second] [(.long (4000000000 : Int64)), (.long (2 : Int64)), (.ref ob)]))
                refine own_st (fun _ k => XS.lmul X76.here hx rfl (hb hby d4_53) rfl k) ?_
                show own_Go _ _ _ _ (T76.setTop (mkF m 54 #[.val (.ref ob), .val (.long (u0 + u1)), .second] [(.long (8000000000 : Int64)), (.ref ob)]))
                refine own_st (fun _ k => X76.ldc2Long hx hown (mvT hZ (hw _ (List.mem_of_getElem? (i := 46) rfl))) (g := (mkF m 54 #[.val (.ref ob), .val (.long (u0 + u1)), .second] [(.long (8000000000 : Int64)), (.ref ob)])) rfl (hb hby d4_54) _ k) ?_
                show own_Go _ _ _ _ (T76.setTop (mkF m 57 #[.val (.ref ob), .val (.long (u0 + u1)), .second] [(.long (4000000000 : Int64)), (.long (8000000000 : Int64)), (.ref ob)]))
                obtain ⟨_, _, ⟨T77, L77, k77, n77⟩, -, X77, ⟨Lc77, hQ77, l77, y77, z77⟩, st77⟩ := Jvm.LawKit.callS X76 hx (y := (⟨"java/lang/Math", "min", "(JJ)J"⟩ : MethodName)) hown (mvT hZ (hw _ (List.mem_of_getElem? (i := 53) rfl))) (mvT hZ (hw _ (List.mem_of_getElem? (i := 49) rfl))) (mvT hZ (hw _ (List.mem_of_getElem? (i := 50) rfl))) (mvT hZ (hw _ (List.mem_of_getElem? (i := 51) rfl))) (by decide) (backOf (W := 1) (rm8 l Z a0 hw [] (8000000000 : Int64) (4000000000 : Int64) h72 n0 Z72 ) hZ (hw _ (List.mem_of_getElem? (i := 51) rfl)) (hw _ (List.mem_of_getElem? (i := 50) rfl)) (by decide) (by decide)) (g := (mkF m 57 #[.val (.ref ob), .val (.long (u0 + u1)), .second] [(.long (4000000000 : Int64)), (.long (8000000000 : Int64)), (.ref ob)])) rfl (by rw [hml]; rfl) (argsL := [(.long (8000000000 : Int64)), (.long (4000000000 : Int64))]) (rest := [(.ref ob)]) (lenOf own_pd0 rfl) rfl (by show 2 * 0 + _ ≤ _; exact Nat.le_of_eq rfl) (hb hby d4_57) (fun _ _ => ⟨rfl, e76, (by decide : 0 + 0 ≤ _), (by decide : 0 + 0 ≤ _)⟩)
                dsimp only [Pt.U, Pt.locs, Pt.cells, Pt.slots] at X77 l77 y77 z77 st77 hQ77
                rw [l77, y77, z77] at X77
                obtain ⟨rfl, Nq77, eq77⟩ := hQ77
                have N77 := Fr.app N72 Nq77
                refine own_st st77 ?_
                rw [show (own_mn (8000000000 : Int64) (4000000000 : Int64)) = (4000000000 : Int64) from by decide]
                show own_Go _ _ _ _ (T77.setTop (mkF m 60 #[.val (.ref ob), .val (.long (u0 + u1)), .second] [(.long (4000000000 : Int64)), (.ref ob)]))
                obtain ⟨T78, h78, X78, e78, W78, st78⟩ := putF X77 hx hZ hown (host := "") (Or.inl (hw _ (List.mem_of_getElem? (i := 11) rfl))) Via.refl eq77 y72_F_ob_interval y72_E_ob (Or.inl (hw _ (List.mem_of_getElem? (i := 12) rfl))) (hw _ (List.mem_of_getElem? (i := 2) rfl)) (ty := .long) (by decide) rfl rfl (g := (mkF m 60 #[.val (.ref ob), .val (.long (u0 + u1)), .second] [(.long (4000000000 : Int64)), (.ref ob)])) rfl rfl (hb hby d4_60)
                refine own_st st78 ?_
                have Fw78 : Fld Z h78 ob "com/example/troskel/troskel/service/RetransmissionTimer" "interval" "J" (.long (4000000000 : Int64)) := y72_F_ob_interval.same W78
                have y78_E_ob := y72_E_ob.wr W78
                have y78_F_ob_timeoutAt := y72_F_ob_timeoutAt.other W78 (Or.inr (slot_ne (Or.inr (hw _ (List.mem_of_getElem? (i := 15) rfl))) (Or.inl (hw _ (List.mem_of_getElem? (i := 12) rfl))) (by decide) (t := .long) (t' := .long) (by decide) (by decide)))
                have y78_F_ob_next := Fw72.other W78 (Or.inr (slot_ne (Or.inl (hw _ (List.mem_of_getElem? (i := 17) rfl))) (Or.inl (hw _ (List.mem_of_getElem? (i := 12) rfl))) (by decide) (t := .long) (t' := .long) (by decide) (by decide)))
                have y78_F_ob_proceeding := y72_F_ob_proceeding.other W78 (Or.inr (slot_ne (Or.inl (hw _ (List.mem_of_getElem? (i := 44) rfl))) (Or.inl (hw _ (List.mem_of_getElem? (i := 12) rfl))) (by decide) (t := .boolean) (t' := .long) (by decide) (by decide)))
                have Z78 : n0 ≤ h78.size := Nat.le_trans Z72 (Nat.le_of_eq W78.size.symm)
                have N78 := Fr.snoc X78 N77 gnob
                have K78 : Keep h0 h78 [ob] := K72.wr W78 (Or.inl (by simp))
                show own_Go _ _ _ _ (T78.setTop (mkF m 63 #[.val (.ref ob), .val (.long (u0 + u1)), .second] []))
                refine own_st (fun _ k => XS.aloadN X78.here hx rfl (hb hby d4_63) rfl rfl k) ?_
                show own_Go _ _ _ _ (T78.setTop (mkF m 64 #[.val (.ref ob), .val (.long (u0 + u1)), .second] [(.ref ob)]))
                refine own_st (fun _ k => XS.dup X78.here hx rfl (hb hby d4_64) rfl rfl k) ?_
                show own_Go _ _ _ _ (T78.setTop (mkF m 65 #[.val (.ref ob), .val (.long (u0 + u1)), .second] [(.ref ob), (.ref ob)]))
                obtain ⟨T79, X79, e79, st79⟩ := getF X78 hx hZ hown (host := "") (Or.inl (hw _ (List.mem_of_getElem? (i := 16) rfl))) Via.refl e78 y78_F_ob_next (g := (mkF m 65 #[.val (.ref ob), .val (.long (u0 + u1)), .second] [(.ref ob), (.ref ob)])) rfl rfl (hb hby d4_65)
                refine own_st st79 ?_
                show own_Go _ _ _ _ (T79.setTop (mkF m 68 #[.val (.ref ob), .val (.long (u0 + u1)), .second] [(.long (u0 + (15500000000 : Int64))), (.ref ob)]))
                refine own_st (fun _ k => XS.aloadN X79.here hx rfl (hb hby d4_68) rfl rfl k) ?_
                show own_Go _ _ _ _ (T79.setTop (mkF m 69 #[.val (.ref ob), .val (.long (u0 + u1)), .second] [(.ref ob), (.long (u0 + (15500000000 : Int64))), (.ref ob)]))
                obtain ⟨T80, X80, e80, st80⟩ := getF X79 hx hZ hown (host := "") (Or.inl (hw _ (List.mem_of_getElem? (i := 11) rfl))) Via.refl e79 Fw78 (g := (mkF m 69 #[.val (.ref ob), .val (.long (u0 + u1)), .second] [(.ref ob), (.long (u0 + (15500000000 : Int64))), (.ref ob)])) rfl rfl (hb hby d4_69)
                refine own_st st80 ?_
                show own_Go _ _ _ _ (T80.setTop (mkF m 72 #[.val (.ref ob), .val (.long (u0 + u1)), .second] [(.long (4000000000 : Int64)), (.long (u0 + (15500000000 : Int64))), (.ref ob)]))
                refine own_st (fun _ k => XS.ladd X80.here hx rfl (hb hby d4_72) rfl k) ?_
                rw [show ((u0 + (15500000000 : Int64)) + (4000000000 : Int64)) = (u0 + (19500000000 : Int64)) from by rw [Int64.add_assoc, show (15500000000 : Int64) + (4000000000 : Int64) = (19500000000 : Int64) from by decide]]
                show own_Go _ _ _ _ (T80.setTop (mkF m 73 #[.val (.ref ob), .val (.long (u0 + u1)), .second] [(.long (u0 + (19500000000 : Int64))), (.ref ob)]))
                obtain ⟨T81, h81, X81, e81, W81, st81⟩ := putF X80 hx hZ hown (host := "") (Or.inl (hw _ (List.mem_of_getElem? (i := 16) rfl))) Via.refl e80 y78_F_ob_next y78_E_ob (Or.inl (hw _ (List.mem_of_getElem? (i := 17) rfl))) (hw _ (List.mem_of_getElem? (i := 2) rfl)) (ty := .long) (by decide) rfl rfl (g := (mkF m 73 #[.val (.ref ob), .val (.long (u0 + u1)), .second] [(.long (u0 + (19500000000 : Int64))), (.ref ob)])) rfl rfl (hb hby d4_73)
                refine own_st st81 ?_
                have Fw81 : Fld Z h81 ob "com/example/troskel/troskel/service/RetransmissionTimer" "next" "J" (.long (u0 + (19500000000 : Int64))) := y78_F_ob_next.same W81
                have y81_E_ob := y78_E_ob.wr W81
                have y81_F_ob_interval := Fw78.other W81 (Or.inr (slot_ne (Or.inl (hw _ (List.mem_of_getElem? (i := 12) rfl))) (Or.inl (hw _ (List.mem_of_getElem? (i := 17) rfl))) (by decide) (t := .long) (t' := .long) (by decide) (by decide)))
                have y81_F_ob_timeoutAt := y78_F_ob_timeoutAt.other W81 (Or.inr (slot_ne (Or.inr (hw _ (List.mem_of_getElem? (i := 15) rfl))) (Or.inl (hw _ (List.mem_of_getElem? (i := 17) rfl))) (by decide) (t := .long) (t' := .long) (by decide) (by decide)))
                have y81_F_ob_proceeding := y78_F_ob_proceeding.other W81 (Or.inr (slot_ne (Or.inl (hw _ (List.mem_of_getElem? (i := 44) rfl))) (Or.inl (hw _ (List.mem_of_getElem? (i := 17) rfl))) (by decide) (t := .boolean) (t' := .long) (by decide) (by decide)))
                have Z81 : n0 ≤ h81.size := Nat.le_trans Z78 (Nat.le_of_eq W81.size.symm)
                have N81 := Fr.snoc X81 N78 gnob
                have K81 : Keep h0 h81 [ob] := K78.wr W81 (Or.inl (by simp))
                show own_Go _ _ _ _ (T81.setTop (mkF m 76 #[.val (.ref ob), .val (.long (u0 + u1)), .second] []))
                refine own_st (fun _ k => XS.goto X81.here hx rfl (pc0 := 76) (pc' := 21) rfl (hb hby d4_76) (by decide) (by decide) k) ?_
                show own_Go _ _ _ _ (T81.setTop (mkF m 21 #[.val (.ref ob), .val (.long (u0 + u1)), .second] []))
                refine own_st (fun _ k => XS.lloadN X81.here hx rfl (hb hby d4_21) rfl k) ?_
                show own_Go _ _ _ _ (T81.setTop (mkF m 22 #[.val (.ref ob), .val (.long (u0 + u1)), .second] [(.long (u0 + u1))]))
                refine own_st (fun _ k => XS.aloadN X81.here hx rfl (hb hby d4_22) rfl rfl k) ?_
                show own_Go _ _ _ _ (T81.setTop (mkF m 23 #[.val (.ref ob), .val (.long (u0 + u1)), .second] [(.ref ob), (.long (u0 + u1))]))
                obtain ⟨T82, X82, e82, st82⟩ := getF X81 hx hZ hown (host := "") (Or.inl (hw _ (List.mem_of_getElem? (i := 16) rfl))) Via.refl e81 Fw81 (g := (mkF m 23 #[.val (.ref ob), .val (.long (u0 + u1)), .second] [(.ref ob), (.long (u0 + u1))])) rfl rfl (hb hby d4_23)
                refine own_st st82 ?_
                show own_Go _ _ _ _ (T82.setTop (mkF m 26 #[.val (.ref ob), .val (.long (u0 + u1)), .second] [(.long (u0 + (19500000000 : Int64))), (.long (u0 + u1))]))
                refine own_st (fun _ k => XS.lsub X82.here hx rfl (hb hby d4_26) rfl k) ?_
                show own_Go _ _ _ _ (T82.setTop (mkF m 27 #[.val (.ref ob), .val (.long (u0 + u1)), .second] [(.long ((u0 + u1) - (u0 + (19500000000 : Int64))))]))
                refine own_st (fun _ k => XS.lconst X82.here hx rfl (hb hby d4_27) k) ?_
                show own_Go _ _ _ _ (T82.setTop (mkF m 28 #[.val (.ref ob), .val (.long (u0 + u1)), .second] [(.long (0 : Int64)), (.long ((u0 + u1) - (u0 + (19500000000 : Int64))))]))
                refine own_st (fun _ k => XS.lcmp X82.here hx rfl (hb hby d4_28) rfl k) ?_
                show own_Go _ _ _ _ (T82.setTop (mkF m 29 #[.val (.ref ob), .val (.long (u0 + u1)), .second] [(.int (lcmpW ((u0 + u1) - (u0 + (19500000000 : Int64))) (0 : Int64)))]))
                by_cases hc83 : (lcmpW ((u0 + u1) - (u0 + (19500000000 : Int64))) (0 : Int64)) < (0 : Int32)
                · skip
                  refine own_st (fun _ k => XS.ifYes X82.here hx rfl (pc0 := 29) (pc' := 79) rfl (hb hby d4_29) rfl ((if0 _ _).trans (tlt hc83).1) (by decide) (by decide) k) ?_
                  show own_Go _ _ _ _ (T82.setTop (mkF m 79 #[.val (.ref ob), .val (.long (u0 + u1)), .second] []))
                  refine own_st (fun _ k => XS.iconst X82.here hx rfl (hb hby d4_79) k) ?_
                  show own_Go _ _ _ _ (T82.setTop (mkF m 80 #[.val (.ref ob), .val (.long (u0 + u1)), .second] [(.int (1 : Int32))]))
                  obtain ⟨fs, hr, hrun, hended, hW, hsame⟩ := X82.leave (v := some (.int (1 : Int32))) (fun h => by rw [Bd.returns] at h; cases h)
                  refine own_out (retN X82 hx (t := .boolean) Bd.returns (by simp) (hb hby d4_80) hr) ⟨hrun, hended, _, _, rfl, ?_, ⟨_, rfl⟩, hW, hsame.mono (by decide) (by decide)⟩
                  show Q4_0 Z ob u0 u1 h0 n0 _ T82.heap _
                  have hv : own_nx0 u0 u1 = (u0 + (19500000000 : Int64)) := by
                    unfold own_nx0
                    rw [if_pos hc26, if_neg hc28, if_neg hc38, if_neg hc47, if_neg hc56, if_neg hc65, if_neg hc74, if_pos hc83]
                  rw [e82]
                  exact ⟨_, rfl, N81, K81, y81_E_ob, by rw [hv]; exact Fw81, y81_F_ob_timeoutAt⟩
                · skip
                  refine own_st (fun _ k => XS.ifNo X82.here hx rfl (hb hby d4_29) rfl ((if0 _ _).trans (flt hc83).1) k) ?_
                  show own_Go _ _ _ _ (T82.setTop (mkF m 32 #[.val (.ref ob), .val (.long (u0 + u1)), .second] []))
                  refine own_st (fun _ k => XS.aloadN X82.here hx rfl (hb hby d4_32) rfl rfl k) ?_
                  show own_Go _ _ _ _ (T82.setTop (mkF m 33 #[.val (.ref ob), .val (.long (u0 + u1)), .second] [(.ref ob)]))
                  refine own_st (fun _ k => XS.aloadN X82.here hx rfl (hb hby d4_33) rfl rfl k) ?_
                  show own_Go _ _ _ _ (T82.setTop (mkF m 34 #[.val (.ref ob), .val (.long (u0 + u1)), .second] [(.ref ob), (.ref ob)]))
                  obtain ⟨T84, X84, e84, st84⟩ := getF X82 hx hZ hown (host := "") (Or.inl (hw _ (List.mem_of_getElem? (i := 43) rfl))) Via.refl e82 y81_F_ob_proceeding (g := (mkF m 34 #[.val (.ref ob), .val (.long (u0 + u1)), .second] [(.ref ob), (.ref ob)])) rfl rfl (hb hby d4_34)
                  refine own_st st84 ?_
                  show own_Go _ _ _ _ (T84.setTop (mkF m 37 #[.val (.ref ob), .val (.long (u0 + u1)), .second] [(.int (0 : Int32)), (.ref ob)]))
                  refine own_st (fun _ k => XS.ifYes X84.here hx rfl (pc0 := 37) (pc' := 46) rfl (hb hby d4_37) rfl ((if0 _ _).trans (teq (by decide : ((0 : Int32) = (0 : Int32)))).1) (by decide) (by decide) k) ?_
                  show own_Go _ _ _ _ (T84.setTop (mkF m 46 #[.val (.ref ob), .val (.long (u0 + u1)), .second] [(.ref ob)]))
                  refine own_st (fun _ k => X84.ldc2Long hx hown (mvT hZ (hw _ (List.mem_of_getElem? (i := 52) rfl))) (g := (mkF m 46 #[.val (.ref ob), .val (.long (u0 + u1)), .second] [(.ref ob)])) rfl (hb hby d4_46) _ k) ?_
                  show own_Go _ _ _ _ (T84.setTop (mkF m 49 #[.val (.ref ob), .val (.long (u0 + u1)), .second] [(.long (2 : Int64)), (.ref ob)]))
                  refine own_st (fun _ k => XS.aloadN X84.here hx rfl (hb hby d4_49) rfl rfl k) ?_
                  show own_Go _ _ _ _ (T84.setTop (mkF m 50 #[.val (.ref ob), .val (.long (u0 + u1)), .second] [(.ref ob), (.long (2 : Int64)), (.ref ob)]))
                  obtain ⟨T85, X85, e85, st85⟩ := getF X84 hx hZ hown (host := "") (Or.inl (hw _ (List.mem_of_getElem? (i := 11) rfl))) Via.refl e84 y81_F_ob_interval (g := (mkF m 50 #[.val (.ref ob), .val (.long (u0 + u1)), .second] [(.ref ob), (.long (2 : Int64)), (.ref ob)])) rfl rfl (hb hby d4_50)
                  refine own_st st85 ?_
                  show own_Go _ _ _ _ (T85.setTop (mkF m 53 #[.val (.ref ob), .val (.long (u0 + u1)), .second] [(.long (4000000000 : Int64)), (.long (2 : Int64)), (.ref ob)]))
                  refine own_st (fun _ k => XS.lmul X85.here hx rfl (hb hby d4_53) rfl k) ?_
                  show own_Go _ _ _ _ (T85.setTop (mkF m 54 #[.val (.ref ob), .val (.long (u0 + u1)), .second] [(.long (8000000000 : Int64)), (.ref ob)]))
                  refine own_st (fun _ k => X85.ldc2Long hx hown (mvT hZ (hw _ (List.mem_of_getElem? (i := 46) rfl))) (g := (mkF m 54 #[.val (.ref ob), .val (.long (u0 + u1)), .second] [(.long (8000000000 : Int64)), (.ref ob)])) rfl (hb hby d4_54) _ k) ?_
                  show own_Go _ _ _ _ (T85.setTop (mkF m 57 #[.val (.ref ob), .val (.long (u0 + u1)), .second] [(.long (4000000000 : Int64)), (.long (8000000000 : Int64)), (.ref ob)]))
                  obtain ⟨_, _, ⟨T86, L86, k86, n86⟩, -, X86, ⟨Lc86, hQ86, l86, y86, z86⟩, st86⟩ := Jvm.LawKit.callS X85 hx (y := (⟨"java/lang/Math", "min", "(JJ)J"⟩ : MethodName)) hown (mvT hZ (hw _ (List.mem_of_getElem? (i := 53) rfl))) (mvT hZ (hw _ (List.mem_of_getElem? (i := 49) rfl))) (mvT hZ (hw _ (List.mem_of_getElem? (i := 50) rfl))) (mvT hZ (hw _ (List.mem_of_getElem? (i := 51) rfl))) (by decide) (backOf (W := 1) (rm8 l Z a0 hw [] (8000000000 : Int64) (4000000000 : Int64) h81 n0 Z81 ) hZ (hw _ (List.mem_of_getElem? (i := 51) rfl)) (hw _ (List.mem_of_getElem? (i := 50) rfl)) (by decide) (by decide)) (g := (mkF m 57 #[.val (.ref ob), .val (.long (u0 + u1)), .second] [(.long (4000000000 : Int64)), (.long (8000000000 : Int64)), (.ref ob)])) rfl (by rw [hml]; rfl) (argsL := [(.long (8000000000 : Int64)), (.long (4000000000 : Int64))]) (rest := [(.ref ob)]) (lenOf own_pd0 rfl) rfl (by show 2 * 0 + _ ≤ _; exact Nat.le_of_eq rfl) (hb hby d4_57) (fun _ _ => ⟨rfl, e85, (by decide : 0 + 0 ≤ _), (by decide : 0 + 0 ≤ _)⟩)
                  dsimp only [Pt.U, Pt.locs, Pt.cells, Pt.slots] at X86 l86 y86 z86 st86 hQ86
                  rw [l86, y86, z86] at X86
                  obtain ⟨rfl, Nq86, eq86⟩ := hQ86
                  have N86 := Fr.app N81 Nq86
                  refine own_st st86 ?_
                  rw [show (own_mn (8000000000 : Int64) (4000000000 : Int64)) = (4000000000 : Int64) from by decide]
                  show own_Go _ _ _ _ (T86.setTop (mkF m 60 #[.val (.ref ob), .val (.long (u0 + u1)), .second] [(.long (4000000000 : Int64)), (.ref ob)]))
                  obtain ⟨T87, h87, X87, e87, W87, st87⟩ := putF X86 hx hZ hown (host := "") (Or.inl (hw _ (List.mem_of_getElem? (i := 11) rfl))) Via.refl eq86 y81_F_ob_interval y81_E_ob (Or.inl (hw _ (List.mem_of_getElem? (i := 12) rfl))) (hw _ (List.mem_of_getElem? (i := 2) rfl)) (ty := .long) (by decide) rfl rfl (g := (mkF m 60 #[.val (.ref ob), .val (.long (u0 + u1)), .second] [(.long (4000000000 : Int64)), (.ref ob)])) rfl rfl (hb hby d4_60)
                  refine own_st st87 ?_
                  have Fw87 : Fld Z h87 ob "com/example/troskel/troskel/service/RetransmissionTimer" "interval" "J" (.long (4000000000 : Int64)) := y81_F_ob_interval.same W87
                  have y87_E_ob := y81_E_ob.wr W87
                  have y87_F_ob_timeoutAt := y81_F_ob_timeoutAt.other W87 (Or.inr (slot_ne (Or.inr (hw _ (List.mem_of_getElem? (i := 15) rfl))) (Or.inl (hw _ (List.mem_of_getElem? (i := 12) rfl))) (by decide) (t := .long) (t' := .long) (by decide) (by decide)))
                  have y87_F_ob_next := Fw81.other W87 (Or.inr (slot_ne (Or.inl (hw _ (List.mem_of_getElem? (i := 17) rfl))) (Or.inl (hw _ (List.mem_of_getElem? (i := 12) rfl))) (by decide) (t := .long) (t' := .long) (by decide) (by decide)))
                  have y87_F_ob_proceeding := y81_F_ob_proceeding.other W87 (Or.inr (slot_ne (Or.inl (hw _ (List.mem_of_getElem? (i := 44) rfl))) (Or.inl (hw _ (List.mem_of_getElem? (i := 12) rfl))) (by decide) (t := .boolean) (t' := .long) (by decide) (by decide)))
                  have Z87 : n0 ≤ h87.size := Nat.le_trans Z81 (Nat.le_of_eq W87.size.symm)
                  have N87 := Fr.snoc X87 N86 gnob
                  have K87 : Keep h0 h87 [ob] := K81.wr W87 (Or.inl (by simp))
                  show own_Go _ _ _ _ (T87.setTop (mkF m 63 #[.val (.ref ob), .val (.long (u0 + u1)), .second] []))
                  refine own_st (fun _ k => XS.aloadN X87.here hx rfl (hb hby d4_63) rfl rfl k) ?_
                  show own_Go _ _ _ _ (T87.setTop (mkF m 64 #[.val (.ref ob), .val (.long (u0 + u1)), .second] [(.ref ob)]))
                  refine own_st (fun _ k => XS.dup X87.here hx rfl (hb hby d4_64) rfl rfl k) ?_
                  show own_Go _ _ _ _ (T87.setTop (mkF m 65 #[.val (.ref ob), .val (.long (u0 + u1)), .second] [(.ref ob), (.ref ob)]))
                  obtain ⟨T88, X88, e88, st88⟩ := getF X87 hx hZ hown (host := "") (Or.inl (hw _ (List.mem_of_getElem? (i := 16) rfl))) Via.refl e87 y87_F_ob_next (g := (mkF m 65 #[.val (.ref ob), .val (.long (u0 + u1)), .second] [(.ref ob), (.ref ob)])) rfl rfl (hb hby d4_65)
                  refine own_st st88 ?_
                  show own_Go _ _ _ _ (T88.setTop (mkF m 68 #[.val (.ref ob), .val (.long (u0 + u1)), .second] [(.long (u0 + (19500000000 : Int64))), (.ref ob)]))
                  refine own_st (fun _ k => XS.aloadN X88.here hx rfl (hb hby d4_68) rfl rfl k) ?_
                  show own_Go _ _ _ _ (T88.setTop (mkF m 69 #[.val (.ref ob), .val (.long (u0 + u1)), .second] [(.ref ob), (.long (u0 + (19500000000 : Int64))), (.ref ob)]))
                  obtain ⟨T89, X89, e89, st89⟩ := getF X88 hx hZ hown (host := "") (Or.inl (hw _ (List.mem_of_getElem? (i := 11) rfl))) Via.refl e88 Fw87 (g := (mkF m 69 #[.val (.ref ob), .val (.long (u0 + u1)), .second] [(.ref ob), (.long (u0 + (19500000000 : Int64))), (.ref ob)])) rfl rfl (hb hby d4_69)
                  refine own_st st89 ?_
                  show own_Go _ _ _ _ (T89.setTop (mkF m 72 #[.val (.ref ob), .val (.long (u0 + u1)), .second] [(.long (4000000000 : Int64)), (.long (u0 + (19500000000 : Int64))), (.ref ob)]))
                  refine own_st (fun _ k => XS.ladd X89.here hx rfl (hb hby d4_72) rfl k) ?_
                  rw [show ((u0 + (19500000000 : Int64)) + (4000000000 : Int64)) = (u0 + (23500000000 : Int64)) from by rw [Int64.add_assoc, show (19500000000 : Int64) + (4000000000 : Int64) = (23500000000 : Int64) from by decide]]
                  show own_Go _ _ _ _ (T89.setTop (mkF m 73 #[.val (.ref ob), .val (.long (u0 + u1)), .second] [(.long (u0 + (23500000000 : Int64))), (.ref ob)]))
                  obtain ⟨T90, h90, X90, e90, W90, st90⟩ := putF X89 hx hZ hown (host := "") (Or.inl (hw _ (List.mem_of_getElem? (i := 16) rfl))) Via.refl e89 y87_F_ob_next y87_E_ob (Or.inl (hw _ (List.mem_of_getElem? (i := 17) rfl))) (hw _ (List.mem_of_getElem? (i := 2) rfl)) (ty := .long) (by decide) rfl rfl (g := (mkF m 73 #[.val (.ref ob), .val (.long (u0 + u1)), .second] [(.long (u0 + (23500000000 : Int64))), (.ref ob)])) rfl rfl (hb hby d4_73)
                  refine own_st st90 ?_
                  have Fw90 : Fld Z h90 ob "com/example/troskel/troskel/service/RetransmissionTimer" "next" "J" (.long (u0 + (23500000000 : Int64))) := y87_F_ob_next.same W90
                  have y90_E_ob := y87_E_ob.wr W90
                  have y90_F_ob_interval := Fw87.other W90 (Or.inr (slot_ne (Or.inl (hw _ (List.mem_of_getElem? (i := 12) rfl))) (Or.inl (hw _ (List.mem_of_getElem? (i := 17) rfl))) (by decide) (t := .long) (t' := .long) (by decide) (by decide)))
                  have y90_F_ob_timeoutAt := y87_F_ob_timeoutAt.other W90 (Or.inr (slot_ne (Or.inr (hw _ (List.mem_of_getElem? (i := 15) rfl))) (Or.inl (hw _ (List.mem_of_getElem? (i := 17) rfl))) (by decide) (t := .long) (t' := .long) (by decide) (by decide)))
                  have y90_F_ob_proceeding := y87_F_ob_proceeding.other W90 (Or.inr (slot_ne (Or.inl (hw _ (List.mem_of_getElem? (i := 44) rfl))) (Or.inl (hw _ (List.mem_of_getElem? (i := 17) rfl))) (by decide) (t := .boolean) (t' := .long) (by decide) (by decide)))
                  have Z90 : n0 ≤ h90.size := Nat.le_trans Z87 (Nat.le_of_eq W90.size.symm)
                  have N90 := Fr.snoc X90 N87 gnob
                  have K90 : Keep h0 h90 [ob] := K87.wr W90 (Or.inl (by simp))
                  show own_Go _ _ _ _ (T90.setTop (mkF m 76 #[.val (.ref ob), .val (.long (u0 + u1)), .second] []))
                  refine own_st (fun _ k => XS.goto X90.here hx rfl (pc0 := 76) (pc' := 21) rfl (hb hby d4_76) (by decide) (by decide) k) ?_
                  show own_Go _ _ _ _ (T90.setTop (mkF m 21 #[.val (.ref ob), .val (.long (u0 + u1)), .second] []))
                  refine own_st (fun _ k => XS.lloadN X90.here hx rfl (hb hby d4_21) rfl k) ?_
                  show own_Go _ _ _ _ (T90.setTop (mkF m 22 #[.val (.ref ob), .val (.long (u0 + u1)), .second] [(.long (u0 + u1))]))
                  refine own_st (fun _ k => XS.aloadN X90.here hx rfl (hb hby d4_22) rfl rfl k) ?_
                  show own_Go _ _ _ _ (T90.setTop (mkF m 23 #[.val (.ref ob), .val (.long (u0 + u1)), .second] [(.ref ob), (.long (u0 + u1))]))
                  obtain ⟨T91, X91, e91, st91⟩ := getF X90 hx hZ hown (host := "") (Or.inl (hw _ (List.mem_of_getElem? (i := 16) rfl))) Via.refl e90 Fw90 (g := (mkF m 23 #[.val (.ref ob), .val (.long (u0 + u1)), .second] [(.ref ob), (.long (u0 + u1))])) rfl rfl (hb hby d4_23)
                  refine own_st st91 ?_
                  show own_Go _ _ _ _ (T91.setTop (mkF m 26 #[.val (.ref ob), .val (.long (u0 + u1)), .second] [(.long (u0 + (23500000000 : Int64))), (.long (u0 + u1))]))
                  refine own_st (fun _ k => XS.lsub X91.here hx rfl (hb hby d4_26) rfl k) ?_
                  show own_Go _ _ _ _ (T91.setTop (mkF m 27 #[.val (.ref ob), .val (.long (u0 + u1)), .second] [(.long ((u0 + u1) - (u0 + (23500000000 : Int64))))]))
                  refine own_st (fun _ k => XS.lconst X91.here hx rfl (hb hby d4_27) k) ?_
                  show own_Go _ _ _ _ (T91.setTop (mkF m 28 #[.val (.ref ob), .val (.long (u0 + u1)), .second] [(.long (0 : Int64)), (.long ((u0 + u1) - (u0 + (23500000000 : Int64))))]))
                  refine own_st (fun _ k => XS.lcmp X91.here hx rfl (hb hby d4_28) rfl k) ?_
                  show own_Go _ _ _ _ (T91.setTop (mkF m 29 #[.val (.ref ob), .val (.long (u0 + u1)), .second] [(.int (lcmpW ((u0 + u1) - (u0 + (23500000000 : Int64))) (0 : Int64)))]))
                  by_cases hc92 : (lcmpW ((u0 + u1) - (u0 + (23500000000 : Int64))) (0 : Int64)) < (0 : Int32)
                  · skip
                    refine own_st (fun _ k => XS.ifYes X91.here hx rfl (pc0 := 29) (pc' := 79) rfl (hb hby d4_29) rfl ((if0 _ _).trans (tlt hc92).1) (by decide) (by decide) k) ?_
                    show own_Go _ _ _ _ (T91.setTop (mkF m 79 #[.val (.ref ob), .val (.long (u0 + u1)), .second] []))
                    refine own_st (fun _ k => XS.iconst X91.here hx rfl (hb hby d4_79) k) ?_
                    show own_Go _ _ _ _ (T91.setTop (mkF m 80 #[.val (.ref ob), .val (.long (u0 + u1)), .second] [(.int (1 : Int32))]))
                    obtain ⟨fs, hr, hrun, hended, hW, hsame⟩ := X91.leave (v := some (.int (1 : Int32))) (fun h => by rw [Bd.returns] at h; cases h)
                    refine own_out (retN X91 hx (t := .boolean) Bd.returns (by simp) (hb hby d4_80) hr) ⟨hrun, hended, _, _, rfl, ?_, ⟨_, rfl⟩, hW, hsame.mono (by decide) (by decide)⟩
                    show Q4_0 Z ob u0 u1 h0 n0 _ T91.heap _
                    have hv : own_nx0 u0 u1 = (u0 + (23500000000 : Int64)) := by
                      unfold own_nx0
                      rw [if_pos hc26, if_neg hc28, if_neg hc38, if_neg hc47, if_neg hc56, if_neg hc65, if_neg hc74, if_neg hc83, if_pos hc92]
                    rw [e91]
                    exact ⟨_, rfl, N90, K90, y90_E_ob, by rw [hv]; exact Fw90, y90_F_ob_timeoutAt⟩
                  · skip
                    refine own_st (fun _ k => XS.ifNo X91.here hx rfl (hb hby d4_29) rfl ((if0 _ _).trans (flt hc92).1) k) ?_
                    show own_Go _ _ _ _ (T91.setTop (mkF m 32 #[.val (.ref ob), .val (.long (u0 + u1)), .second] []))
                    refine own_st (fun _ k => XS.aloadN X91.here hx rfl (hb hby d4_32) rfl rfl k) ?_
                    show own_Go _ _ _ _ (T91.setTop (mkF m 33 #[.val (.ref ob), .val (.long (u0 + u1)), .second] [(.ref ob)]))
                    refine own_st (fun _ k => XS.aloadN X91.here hx rfl (hb hby d4_33) rfl rfl k) ?_
                    show own_Go _ _ _ _ (T91.setTop (mkF m 34 #[.val (.ref ob), .val (.long (u0 + u1)), .second] [(.ref ob), (.ref ob)]))
                    obtain ⟨T93, X93, e93, st93⟩ := getF X91 hx hZ hown (host := "") (Or.inl (hw _ (List.mem_of_getElem? (i := 43) rfl))) Via.refl e91 y90_F_ob_proceeding (g := (mkF m 34 #[.val (.ref ob), .val (.long (u0 + u1)), .second] [(.ref ob), (.ref ob)])) rfl rfl (hb hby d4_34)
                    refine own_st st93 ?_
                    show own_Go _ _ _ _ (T93.setTop (mkF m 37 #[.val (.ref ob), .val (.long (u0 + u1)), .second] [(.int (0 : Int32)), (.ref ob)]))
                    refine own_st (fun _ k => XS.ifYes X93.here hx rfl (pc0 := 37) (pc' := 46) rfl (hb hby d4_37) rfl ((if0 _ _).trans (teq (by decide : ((0 : Int32) = (0 : Int32)))).1) (by decide) (by decide) k) ?_
                    show own_Go _ _ _ _ (T93.setTop (mkF m 46 #[.val (.ref ob), .val (.long (u0 + u1)), .second] [(.ref ob)]))
                    refine own_st (fun _ k => X93.ldc2Long hx hown (mvT hZ (hw _ (List.mem_of_getElem? (i := 52) rfl))) (g := (mkF m 46 #[.val (.ref ob), .val (.long (u0 + u1)), .second] [(.ref ob)])) rfl (hb hby d4_46) _ k) ?_
                    show own_Go _ _ _ _ (T93.setTop (mkF m 49 #[.val (.ref ob), .val (.long (u0 + u1)), .second] [(.long (2 : Int64)), (.ref ob)]))
                    refine own_st (fun _ k => XS.aloadN X93.here hx rfl (hb hby d4_49) rfl rfl k) ?_
                    show own_Go _ _ _ _ (T93.setTop (mkF m 50 #[.val (.ref ob), .val (.long (u0 + u1)), .second] [(.ref ob), (.long (2 : Int64)), (.ref ob)]))
                    obtain ⟨T94, X94, e94, st94⟩ := getF X93 hx hZ hown (host := "") (Or.inl (hw _ (List.mem_of_getElem? (i := 11) rfl))) Via.refl e93 y90_F_ob_interval (g := (mkF m 50 #[.val (.ref ob), .val (.long (u0 + u1)), .second] [(.ref ob), (.long (2 : Int64)), (.ref ob)])) rfl rfl (hb hby d4_50)
                    refine own_st st94 ?_
                    show own_Go _ _ _ _ (T94.setTop (mkF m 53 #[.val (.ref ob), .val (.long (u0 + u1)), .second] [(.long (4000000000 : Int64)), (.long (2 : Int64)), (.ref ob)]))
                    refine own_st (fun _ k => XS.lmul X94.here hx rfl (hb hby d4_53) rfl k) ?_
                    show own_Go _ _ _ _ (T94.setTop (mkF m 54 #[.val (.ref ob), .val (.long (u0 + u1)), .second] [(.long (8000000000 : Int64)), (.ref ob)]))
                    refine own_st (fun _ k => X94.ldc2Long hx hown (mvT hZ (hw _ (List.mem_of_getElem? (i := 46) rfl))) (g := (mkF m 54 #[.val (.ref ob), .val (.long (u0 + u1)), .second] [(.long (8000000000 : Int64)), (.ref ob)])) rfl (hb hby d4_54) _ k) ?_
                    show own_Go _ _ _ _ (T94.setTop (mkF m 57 #[.val (.ref ob), .val (.long (u0 + u1)), .second] [(.long (4000000000 : Int64)), (.long (8000000000 : Int64)), (.ref ob)]))
                    obtain ⟨_, _, ⟨T95, L95, k95, n95⟩, -, X95, ⟨Lc95, hQ95, l95, y95, z95⟩, st95⟩ := Jvm.LawKit.callS X94 hx (y := (⟨"java/lang/Math", "min", "(JJ)J"⟩ : MethodName)) hown (mvT hZ (hw _ (List.mem_of_getElem? (i := 53) rfl))) (mvT hZ (hw _ (List.mem_of_getElem? (i := 49) rfl))) (mvT hZ (hw _ (List.mem_of_getElem? (i := 50) rfl))) (mvT hZ (hw _ (List.mem_of_getElem? (i := 51) rfl))) (by decide) (backOf (W := 1) (rm8 l Z a0 hw [] (8000000000 : Int64) (4000000000 : Int64) h90 n0 Z90 ) hZ (hw _ (List.mem_of_getElem? (i := 51) rfl)) (hw _ (List.mem_of_getElem? (i := 50) rfl)) (by decide) (by decide)) (g := (mkF m 57 #[.val (.ref ob), .val (.long (u0 + u1)), .second] [(.long (4000000000 : Int64)), (.long (8000000000 : Int64)), (.ref ob)])) rfl (by rw [hml]; rfl) (argsL := [(.long (8000000000 : Int64)), (.long (4000000000 : Int64))]) (rest := [(.ref ob)]) (lenOf own_pd0 rfl) rfl (by show 2 * 0 + _ ≤ _; exact Nat.le_of_eq rfl) (hb hby d4_57) (fun _ _ => ⟨rfl, e94, (by decide : 0 + 0 ≤ _), (by decide : 0 + 0 ≤ _)⟩)
                    dsimp only [Pt.U, Pt.locs, Pt.cells, Pt.slots] at X95 l95 y95 z95 st95 hQ95
                    rw [l95, y95, z95] at X95
                    obtain ⟨rfl, Nq95, eq95⟩ := hQ95
                    have N95 := Fr.app N90 Nq95
                    refine own_st st95 ?_
                    rw [show (own_mn (8000000000 : Int64) (4000000000 : Int64)) = (4000000000 : Int64) from by decide]
                    show own_Go _ _ _ _ (T95.setTop (mkF m 60 #[.val (.ref ob), .val (.long (u0 + u1)), .second] [(.long (4000000000 : Int64)), (.ref ob)]))
                    obtain ⟨T96, h96, X96, e96, W96, st96⟩ := putF X95 hx hZ hown (host := "") (Or.inl (hw _ (List.mem_of_getElem? (i := 11) rfl))) Via.refl eq95 y90_F_ob_interval y90_E_ob (Or.inl (hw _ (List.mem_of_getElem? (i := 12) rfl))) (hw _ (List.mem_of_getElem? (i := 2) rfl)) (ty := .long) (by decide) rfl rfl (g := (mkF m 60 #[.val (.ref ob), .val (.long (u0 + u1)), .second] [(.long (4000000000 : Int64)), (.ref ob)])) rfl rfl (hb hby d4_60)
                    refine own_st st96 ?_
                    have Fw96 : Fld Z h96 ob "com/example/troskel/troskel/service/RetransmissionTimer" "interval" "J" (.long (4000000000 : Int64)) := y90_F_ob_interval.same W96
                    have y96_E_ob := y90_E_ob.wr W96
                    have y96_F_ob_timeoutAt := y90_F_ob_timeoutAt.other W96 (Or.inr (slot_ne (Or.inr (hw _ (List.mem_of_getElem? (i := 15) rfl))) (Or.inl (hw _ (List.mem_of_getElem? (i := 12) rfl))) (by decide) (t := .long) (t' := .long) (by decide) (by decide)))
                    have y96_F_ob_next := Fw90.other W96 (Or.inr (slot_ne (Or.inl (hw _ (List.mem_of_getElem? (i := 17) rfl))) (Or.inl (hw _ (List.mem_of_getElem? (i := 12) rfl))) (by decide) (t := .long) (t' := .long) (by decide) (by decide)))
                    have y96_F_ob_proceeding := y90_F_ob_proceeding.other W96 (Or.inr (slot_ne (Or.inl (hw _ (List.mem_of_getElem? (i := 44) rfl))) (Or.inl (hw _ (List.mem_of_getElem? (i := 12) rfl))) (by decide) (t := .boolean) (t' := .long) (by decide) (by decide)))
                    have Z96 : n0 ≤ h96.size := Nat.le_trans Z90 (Nat.le_of_eq W96.size.symm)
                    have N96 := Fr.snoc X96 N95 gnob
                    have K96 : Keep h0 h96 [ob] := K90.wr W96 (Or.inl (by simp))
                    show own_Go _ _ _ _ (T96.setTop (mkF m 63 #[.val (.ref ob), .val (.long (u0 + u1)), .second] []))
                    refine own_st (fun _ k => XS.aloadN X96.here hx rfl (hb hby d4_63) rfl rfl k) ?_
                    show own_Go _ _ _ _ (T96.setTop (mkF m 64 #[.val (.ref ob), .val (.long (u0 + u1)), .second] [(.ref ob)]))
                    refine own_st (fun _ k => XS.dup X96.here hx rfl (hb hby d4_64) rfl rfl k) ?_
                    show own_Go _ _ _ _ (T96.setTop (mkF m 65 #[.val (.ref ob), .val (.long (u0 + u1)), .second] [(.ref ob), (.ref ob)]))
                    obtain ⟨T97, X97, e97, st97⟩ := getF X96 hx hZ hown (host := "") (Or.inl (hw _ (List.mem_of_getElem? (i := 16) rfl))) Via.refl e96 y96_F_ob_next (g := (mkF m 65 #[.val (.ref ob), .val (.long (u0 + u1)), .second] [(.ref ob), (.ref ob)])) rfl rfl (hb hby d4_65)
                    refine own_st st97 ?_
                    show own_Go _ _ _ _ (T97.setTop (mkF m 68 #[.val (.ref ob), .val (.long (u0 + u1)), .second] [(.long (u0 + (23500000000 : Int64))), (.ref ob)]))
                    refine own_st (fun _ k => XS.aloadN X97.here hx rfl (hb hby d4_68) rfl rfl k) ?_
                    show own_Go _ _ _ _ (T97.setTop (mkF m 69 #[.val (.ref ob), .val (.long (u0 + u1)), .second] [(.ref ob), (.long (u0 + (23500000000 : Int64))), (.ref ob)]))
                    obtain ⟨T98, X98, e98, st98⟩ := getF X97 hx hZ hown (host := "") (Or.inl (hw _ (List.mem_of_getElem? (i := 11) rfl))) Via.refl e97 Fw96 (g := (mkF m 69 #[.val (.ref ob), .val (.long (u0 + u1)), .second] [(.ref ob), (.long (u0 + (23500000000 : Int64))), (.ref ob)])) rfl rfl (hb hby d4_69)
                    refine own_st st98 ?_
                    show own_Go _ _ _ _ (T98.setTop (mkF m 72 #[.val (.ref ob), .val (.long (u0 + u1)), .second] [(.long (4000000000 : Int64)), (.long (u0 + (23500000000 : Int64))), (.ref ob)]))
                    refine own_st (fun _ k => XS.ladd X98.here hx rfl (hb hby d4_72) rfl k) ?_
                    rw [show ((u0 + (23500000000 : Int64)) + (4000000000 : Int64)) = (u0 + (27500000000 : Int64)) from by rw [Int64.add_assoc, show (23500000000 : Int64) + (4000000000 : Int64) = (27500000000 : Int64) from by decide]]
                    show own_Go _ _ _ _ (T98.setTop (mkF m 73 #[.val (.ref ob), .val (.long (u0 + u1)), .second] [(.long (u0 + (27500000000 : Int64))), (.ref ob)]))
                    obtain ⟨T99, h99, X99, e99, W99, st99⟩ := putF X98 hx hZ hown (host := "") (Or.inl (hw _ (List.mem_of_getElem? (i := 16) rfl))) Via.refl e98 y96_F_ob_next y96_E_ob (Or.inl (hw _ (List.mem_of_getElem? (i := 17) rfl))) (hw _ (List.mem_of_getElem? (i := 2) rfl)) (ty := .long) (by decide) rfl rfl (g := (mkF m 73 #[.val (.ref ob), .val (.long (u0 + u1)), .second] [(.long (u0 + (27500000000 : Int64))), (.ref ob)])) rfl rfl (hb hby d4_73)
                    refine own_st st99 ?_
                    have Fw99 : Fld Z h99 ob "com/example/troskel/troskel/service/RetransmissionTimer" "next" "J" (.long (u0 + (27500000000 : Int64))) := y96_F_ob_next.same W99
                    have y99_E_ob := y96_E_ob.wr W99
                    have y99_F_ob_interval := Fw96.other W99 (Or.inr (slot_ne (Or.inl (hw _ (List.mem_of_getElem? (i := 12) rfl))) (Or.inl (hw _ (List.mem_of_getElem? (i := 17) rfl))) (by decide) (t := .long) (t' := .long) (by decide) (by decide)))
                    have y99_F_ob_timeoutAt := y96_F_ob_timeoutAt.other W99 (Or.inr (slot_ne (Or.inr (hw _ (List.mem_of_getElem? (i := 15) rfl))) (Or.inl (hw _ (List.mem_of_getElem? (i := 17) rfl))) (by decide) (t := .long) (t' := .long) (by decide) (by decide)))
                    have y99_F_ob_proceeding := y96_F_ob_proceeding.other W99 (Or.inr (slot_ne (Or.inl (hw _ (List.mem_of_getElem? (i := 44) rfl))) (Or.inl (hw _ (List.mem_of_getElem? (i := 17) rfl))) (by decide) (t := .boolean) (t' := .long) (by decide) (by decide)))
                    have Z99 : n0 ≤ h99.size := Nat.le_trans Z96 (Nat.le_of_eq W99.size.symm)
                    have N99 := Fr.snoc X99 N96 gnob
                    have K99 : Keep h0 h99 [ob] := K96.wr W99 (Or.inl (by simp))
                    show own_Go _ _ _ _ (T99.setTop (mkF m 76 #[.val (.ref ob), .val (.long (u0 + u1)), .second] []))
                    refine own_st (fun _ k => XS.goto X99.here hx rfl (pc0 := 76) (pc' := 21) rfl (hb hby d4_76) (by decide) (by decide) k) ?_
                    show own_Go _ _ _ _ (T99.setTop (mkF m 21 #[.val (.ref ob), .val (.long (u0 + u1)), .second] []))
                    refine own_st (fun _ k => XS.lloadN X99.here hx rfl (hb hby d4_21) rfl k) ?_
                    show own_Go _ _ _ _ (T99.setTop (mkF m 22 #[.val (.ref ob), .val (.long (u0 + u1)), .second] [(.long (u0 + u1))]))
                    refine own_st (fun _ k => XS.aloadN X99.here hx rfl (hb hby d4_22) rfl rfl k) ?_
                    show own_Go _ _ _ _ (T99.setTop (mkF m 23 #[.val (.ref ob), .val (.long (u0 + u1)), .second] [(.ref ob), (.long (u0 + u1))]))
                    obtain ⟨T100, X100, e100, st100⟩ := getF X99 hx hZ hown (host := "") (Or.inl (hw _ (List.mem_of_getElem? (i := 16) rfl))) Via.refl e99 Fw99 (g := (mkF m 23 #[.val (.ref ob), .val (.long (u0 + u1)), .second] [(.ref ob), (.long (u0 + u1))])) rfl rfl (hb hby d4_23)
                    refine own_st st100 ?_
                    show own_Go _ _ _ _ (T100.setTop (mkF m 26 #[.val (.ref ob), .val (.long (u0 + u1)), .second] [(.long (u0 + (27500000000 : Int64))), (.long (u0 + u1))]))
                    refine own_st (fun _ k => XS.lsub X100.here hx rfl (hb hby d4_26) rfl k) ?_
                    show own_Go _ _ _ _ (T100.setTop (mkF m 27 #[.val (.ref ob), .val (.long (u0 + u1)), .second] [(.long ((u0 + u1) - (u0 + (27500000000 : Int64))))]))
                    refine own_st (fun _ k => XS.lconst X100.here hx rfl (hb hby d4_27) k) ?_
                    show own_Go _ _ _ _ (T100.setTop (mkF m 28 #[.val (.ref ob), .val (.long (u0 + u1)), .second] [(.long (0 : Int64)), (.long ((u0 + u1) - (u0 + (27500000000 : Int64))))]))
                    refine own_st (fun _ k => XS.lcmp X100.here hx rfl (hb hby d4_28) rfl k) ?_
                    show own_Go _ _ _ _ (T100.setTop (mkF m 29 #[.val (.ref ob), .val (.long (u0 + u1)), .second] [(.int (lcmpW ((u0 + u1) - (u0 + (27500000000 : Int64))) (0 : Int64)))]))
                    by_cases hc101 : (lcmpW ((u0 + u1) - (u0 + (27500000000 : Int64))) (0 : Int64)) < (0 : Int32)
                    · skip
                      refine own_st (fun _ k => XS.ifYes X100.here hx rfl (pc0 := 29) (pc' := 79) rfl (hb hby d4_29) rfl ((if0 _ _).trans (tlt hc101).1) (by decide) (by decide) k) ?_
                      show own_Go _ _ _ _ (T100.setTop (mkF m 79 #[.val (.ref ob), .val (.long (u0 + u1)), .second] []))
                      refine own_st (fun _ k => XS.iconst X100.here hx rfl (hb hby d4_79) k) ?_
                      show own_Go _ _ _ _ (T100.setTop (mkF m 80 #[.val (.ref ob), .val (.long (u0 + u1)), .second] [(.int (1 : Int32))]))
                      obtain ⟨fs, hr, hrun, hended, hW, hsame⟩ := X100.leave (v := some (.int (1 : Int32))) (fun h => by rw [Bd.returns] at h; cases h)
                      refine own_out (retN X100 hx (t := .boolean) Bd.returns (by simp) (hb hby d4_80) hr) ⟨hrun, hended, _, _, rfl, ?_, ⟨_, rfl⟩, hW, hsame.mono (by decide) (by decide)⟩
                      show Q4_0 Z ob u0 u1 h0 n0 _ T100.heap _
                      have hv : own_nx0 u0 u1 = (u0 + (27500000000 : Int64)) := by
                        unfold own_nx0
                        rw [if_pos hc26, if_neg hc28, if_neg hc38, if_neg hc47, if_neg hc56, if_neg hc65, if_neg hc74, if_neg hc83, if_neg hc92, if_pos hc101]
                      rw [e100]
                      exact ⟨_, rfl, N99, K99, y99_E_ob, by rw [hv]; exact Fw99, y99_F_ob_timeoutAt⟩
                    · skip
                      refine own_st (fun _ k => XS.ifNo X100.here hx rfl (hb hby d4_29) rfl ((if0 _ _).trans (flt hc101).1) k) ?_
                      show own_Go _ _ _ _ (T100.setTop (mkF m 32 #[.val (.ref ob), .val (.long (u0 + u1)), .second] []))
                      refine own_st (fun _ k => XS.aloadN X100.here hx rfl (hb hby d4_32) rfl rfl k) ?_
                      show own_Go _ _ _ _ (T100.setTop (mkF m 33 #[.val (.ref ob), .val (.long (u0 + u1)), .second] [(.ref ob)]))
                      refine own_st (fun _ k => XS.aloadN X100.here hx rfl (hb hby d4_33) rfl rfl k) ?_
                      show own_Go _ _ _ _ (T100.setTop (mkF m 34 #[.val (.ref ob), .val (.long (u0 + u1)), .second] [(.ref ob), (.ref ob)]))
                      obtain ⟨T102, X102, e102, st102⟩ := getF X100 hx hZ hown (host := "") (Or.inl (hw _ (List.mem_of_getElem? (i := 43) rfl))) Via.refl e100 y99_F_ob_proceeding (g := (mkF m 34 #[.val (.ref ob), .val (.long (u0 + u1)), .second] [(.ref ob), (.ref ob)])) rfl rfl (hb hby d4_34)
                      refine own_st st102 ?_
                      show own_Go _ _ _ _ (T102.setTop (mkF m 37 #[.val (.ref ob), .val (.long (u0 + u1)), .second] [(.int (0 : Int32)), (.ref ob)]))
                      refine own_st (fun _ k => XS.ifYes X102.here hx rfl (pc0 := 37) (pc' := 46) rfl (hb hby d4_37) rfl ((if0 _ _).trans (teq (by decide : ((0 : Int32) = (0 : Int32)))).1) (by decide) (by decide) k) ?_
                      show own_Go _ _ _ _ (T102.setTop (mkF m 46 #[.val (.ref ob), .val (.long (u0 + u1)), .second] [(.ref ob)]))
                      refine own_st (fun _ k => X102.ldc2Long hx hown (mvT hZ (hw _ (List.mem_of_getElem? (i := 52) rfl))) (g := (mkF m 46 #[.val (.ref ob), .val (.long (u0 + u1)), .second] [(.ref ob)])) rfl (hb hby d4_46) _ k) ?_
                      show own_Go _ _ _ _ (T102.setTop (mkF m 49 #[.val (.ref ob), .val (.long (u0 + u1)), .second] [(.long (2 : Int64)), (.ref ob)]))
                      refine own_st (fun _ k => XS.aloadN X102.here hx rfl (hb hby d4_49) rfl rfl k) ?_
                      show own_Go _ _ _ _ (T102.setTop (mkF m 50 #[.val (.ref ob), .val (.long (u0 + u1)), .second] [(.ref ob), (.long (2 : Int64)), (.ref ob)]))
                      obtain ⟨T103, X103, e103, st103⟩ := getF X102 hx hZ hown (host := "") (Or.inl (hw _ (List.mem_of_getElem? (i := 11) rfl))) Via.refl e102 y99_F_ob_interval (g := (mkF m 50 #[.val (.ref ob), .val (.long (u0 + u1)), .second] [(.ref ob), (.long (2 : Int64)), (.ref ob)])) rfl rfl (hb hby d4_50)
                      refine own_st st103 ?_
                      show own_Go _ _ _ _ (T103.setTop (mkF m 53 #[.val (.ref ob), .val (.long (u0 + u1)), .second] [(.long (4000000000 : Int64)), (.long (2 : Int64)), (.ref ob)]))
                      refine own_st (fun _ k => XS.lmul X103.here hx rfl (hb hby d4_53) rfl k) ?_
                      show own_Go _ _ _ _ (T103.setTop (mkF m 54 #[.val (.ref ob), .val (.long (u0 + u1)), .second] [(.long (8000000000 : Int64)), (.ref ob)]))
                      refine own_st (fun _ k => X103.ldc2Long hx hown (mvT hZ (hw _ (List.mem_of_getElem? (i := 46) rfl))) (g := (mkF m 54 #[.val (.ref ob), .val (.long (u0 + u1)), .second] [(.long (8000000000 : Int64)), (.ref ob)])) rfl (hb hby d4_54) _ k) ?_
                      show own_Go _ _ _ _ (T103.setTop (mkF m 57 #[.val (.ref ob), .val (.long (u0 + u1)), .second] [(.long (4000000000 : Int64)), (.long (8000000000 : Int64)), (.ref ob)]))
                      obtain ⟨_, _, ⟨T104, L104, k104, n104⟩, -, X104, ⟨Lc104, hQ104, l104, y104, z104⟩, st104⟩ := Jvm.LawKit.callS X103 hx (y := (⟨"java/lang/Math", "min", "(JJ)J"⟩ : MethodName)) hown (mvT hZ (hw _ (List.mem_of_getElem? (i := 53) rfl))) (mvT hZ (hw _ (List.mem_of_getElem? (i := 49) rfl))) (mvT hZ (hw _ (List.mem_of_getElem? (i := 50) rfl))) (mvT hZ (hw _ (List.mem_of_getElem? (i := 51) rfl))) (by decide) (backOf (W := 1) (rm8 l Z a0 hw [] (8000000000 : Int64) (4000000000 : Int64) h99 n0 Z99 ) hZ (hw _ (List.mem_of_getElem? (i := 51) rfl)) (hw _ (List.mem_of_getElem? (i := 50) rfl)) (by decide) (by decide)) (g := (mkF m 57 #[.val (.ref ob), .val (.long (u0 + u1)), .second] [(.long (4000000000 : Int64)), (.long (8000000000 : Int64)), (.ref ob)])) rfl (by rw [hml]; rfl) (argsL := [(.long (8000000000 : Int64)), (.long (4000000000 : Int64))]) (rest := [(.ref ob)]) (lenOf own_pd0 rfl) rfl (by show 2 * 0 + _ ≤ _; exact Nat.le_of_eq rfl) (hb hby d4_57) (fun _ _ => ⟨rfl, e103, (by decide : 0 + 0 ≤ _), (by decide : 0 + 0 ≤ _)⟩)
                      dsimp only [Pt.U, Pt.locs, Pt.cells, Pt.slots] at X104 l104 y104 z104 st104 hQ104
                      rw [l104, y104, z104] at X104
                      obtain ⟨rfl, Nq104, eq104⟩ := hQ104
                      have N104 := Fr.app N99 Nq104
                      refine own_st st104 ?_
                      rw [show (own_mn (8000000000 : Int64) (4000000000 : Int64)) = (4000000000 : Int64) from by decide]
                      show own_Go _ _ _ _ (T104.setTop (mkF m 60 #[.val (.ref ob), .val (.long (u0 + u1)), .second] [(.long (4000000000 : Int64)), (.ref ob)]))
                      obtain ⟨T105, h105, X105, e105, W105, st105⟩ := putF X104 hx hZ hown (host := "") (Or.inl (hw _ (List.mem_of_getElem? (i := 11) rfl))) Via.refl eq104 y99_F_ob_interval y99_E_ob (Or.inl (hw _ (List.mem_of_getElem? (i := 12) rfl))) (hw _ (List.mem_of_getElem? (i := 2) rfl)) (ty := .long) (by decide) rfl rfl (g := (mkF m 60 #[.val (.ref ob), .val (.long (u0 + u1)), .second] [(.long (4000000000 : Int64)), (.ref ob)])) rfl rfl (hb hby d4_60)
                      refine own_st st105 ?_
                      have Fw105 : Fld Z h105 ob "com/example/troskel/troskel/service/RetransmissionTimer" "interval" "J" (.long (4000000000 : Int64)) := y99_F_ob_interval.same W105
                      have y105_E_ob := y99_E_ob.wr W105
                      have y105_F_ob_timeoutAt := y99_F_ob_timeoutAt.other W105 (Or.inr (slot_ne (Or.inr (hw _ (List.mem_of_getElem? (i := 15) rfl))) (Or.inl (hw _ (List.mem_of_getElem? (i := 12) rfl))) (by decide) (t := .long) (t' := .long) (by decide) (by decide)))
                      have y105_F_ob_next := Fw99.other W105 (Or.inr (slot_ne (Or.inl (hw _ (List.mem_of_getElem? (i := 17) rfl))) (Or.inl (hw _ (List.mem_of_getElem? (i := 12) rfl))) (by decide) (t := .long) (t' := .long) (by decide) (by decide)))
                      have y105_F_ob_proceeding := y99_F_ob_proceeding.other W105 (Or.inr (slot_ne (Or.inl (hw _ (List.mem_of_getElem? (i := 44) rfl))) (Or.inl (hw _ (List.mem_of_getElem? (i := 12) rfl))) (by decide) (t := .boolean) (t' := .long) (by decide) (by decide)))
                      have Z105 : n0 ≤ h105.size := Nat.le_trans Z99 (Nat.le_of_eq W105.size.symm)
                      have N105 := Fr.snoc X105 N104 gnob
                      have K105 : Keep h0 h105 [ob] := K99.wr W105 (Or.inl (by simp))
                      show own_Go _ _ _ _ (T105.setTop (mkF m 63 #[.val (.ref ob), .val (.long (u0 + u1)), .second] []))
                      refine own_st (fun _ k => XS.aloadN X105.here hx rfl (hb hby d4_63) rfl rfl k) ?_
                      show own_Go _ _ _ _ (T105.setTop (mkF m 64 #[.val (.ref ob), .val (.long (u0 + u1)), .second] [(.ref ob)]))
                      refine own_st (fun _ k => XS.dup X105.here hx rfl (hb hby d4_64) rfl rfl k) ?_
                      show own_Go _ _ _ _ (T105.setTop (mkF m 65 #[.val (.ref ob), .val (.long (u0 + u1)), .second] [(.ref ob), (.ref ob)]))
                      obtain ⟨T106, X106, e106, st106⟩ := getF X105 hx hZ hown (host := "") (Or.inl (hw _ (List.mem_of_getElem? (i := 16) rfl))) Via.refl e105 y105_F_ob_next (g := (mkF m 65 #[.val (.ref ob), .val (.long (u0 + u1)), .second] [(.ref ob), (.ref ob)])) rfl rfl (hb hby d4_65)
                      refine own_st st106 ?_
                      show own_Go _ _ _ _ (T106.setTop (mkF m 68 #[.val (.ref ob), .val (.long (u0 + u1)), .second] [(.long (u0 + (27500000000 : Int64))), (.ref ob)]))
                      refine own_st (fun _ k => XS.aloadN X106.here hx rfl (hb hby d4_68) rfl rfl k) ?_
                      show own_Go _ _ _ _ (T106.setTop (mkF m 69 #[.val (.ref ob), .val (.long (u0 + u1)), .second] [(.ref ob), (.long (u0 + (27500000000 : Int64))), (.ref ob)]))
                      obtain ⟨T107, X107, e107, st107⟩ := getF X106 hx hZ hown (host := "") (Or.inl (hw _ (List.mem_of_getElem? (i := 11) rfl))) Via.refl e106 Fw105 (g := (mkF m 69 #[.val (.ref ob), .val (.long (u0 + u1)), .second] [(.ref ob), (.long (u0 + (27500000000 : Int64))), (.ref ob)])) rfl rfl (hb hby d4_69)
                      refine own_st st107 ?_
                      show own_Go _ _ _ _ (T107.setTop (mkF m 72 #[.val (.ref ob), .val (.long (u0 + u1)), .second] [(.long (4000000000 : Int64)), (.long (u0 + (27500000000 : Int64))), (.ref ob)]))
                      refine own_st (fun _ k => XS.ladd X107.here hx rfl (hb hby d4_72) rfl k) ?_
                      rw [show ((u0 + (27500000000 : Int64)) + (4000000000 : Int64)) = (u0 + (31500000000 : Int64)) from by rw [Int64.add_assoc, show (27500000000 : Int64) + (4000000000 : Int64) = (31500000000 : Int64) from by decide]]
                      show own_Go _ _ _ _ (T107.setTop (mkF m 73 #[.val (.ref ob), .val (.long (u0 + u1)), .second] [(.long (u0 + (31500000000 : Int64))), (.ref ob)]))
                      obtain ⟨T108, h108, X108, e108, W108, st108⟩ := putF X107 hx hZ hown (host := "") (Or.inl (hw _ (List.mem_of_getElem? (i := 16) rfl))) Via.refl e107 y105_F_ob_next y105_E_ob (Or.inl (hw _ (List.mem_of_getElem? (i := 17) rfl))) (hw _ (List.mem_of_getElem? (i := 2) rfl)) (ty := .long) (by decide) rfl rfl (g := (mkF m 73 #[.val (.ref ob), .val (.long (u0 + u1)), .second] [(.long (u0 + (31500000000 : Int64))), (.ref ob)])) rfl rfl (hb hby d4_73)
                      refine own_st st108 ?_
                      have Fw108 : Fld Z h108 ob "com/example/troskel/troskel/service/RetransmissionTimer" "next" "J" (.long (u0 + (31500000000 : Int64))) := y105_F_ob_next.same W108
                      have y108_E_ob := y105_E_ob.wr W108
                      have y108_F_ob_interval := Fw105.other W108 (Or.inr (slot_ne (Or.inl (hw _ (List.mem_of_getElem? (i := 12) rfl))) (Or.inl (hw _ (List.mem_of_getElem? (i := 17) rfl))) (by decide) (t := .long) (t' := .long) (by decide) (by decide)))
                      have y108_F_ob_timeoutAt := y105_F_ob_timeoutAt.other W108 (Or.inr (slot_ne (Or.inr (hw _ (List.mem_of_getElem? (i := 15) rfl))) (Or.inl (hw _ (List.mem_of_getElem? (i := 17) rfl))) (by decide) (t := .long) (t' := .long) (by decide) (by decide)))
                      have y108_F_ob_proceeding := y105_F_ob_proceeding.other W108 (Or.inr (slot_ne (Or.inl (hw _ (List.mem_of_getElem? (i := 44) rfl))) (Or.inl (hw _ (List.mem_of_getElem? (i := 17) rfl))) (by decide) (t := .boolean) (t' := .long) (by decide) (by decide)))
                      have Z108 : n0 ≤ h108.size := Nat.le_trans Z105 (Nat.le_of_eq W108.size.symm)
                      have N108 := Fr.snoc X108 N105 gnob
                      have K108 : Keep h0 h108 [ob] := K105.wr W108 (Or.inl (by simp))
                      show own_Go _ _ _ _ (T108.setTop (mkF m 76 #[.val (.ref ob), .val (.long (u0 + u1)), .second] []))
                      refine own_st (fun _ k => XS.goto X108.here hx rfl (pc0 := 76) (pc' := 21) rfl (hb hby d4_76) (by decide) (by decide) k) ?_
                      show own_Go _ _ _ _ (T108.setTop (mkF m 21 #[.val (.ref ob), .val (.long (u0 + u1)), .second] []))
                      refine own_st (fun _ k => XS.lloadN X108.here hx rfl (hb hby d4_21) rfl k) ?_
                      show own_Go _ _ _ _ (T108.setTop (mkF m 22 #[.val (.ref ob), .val (.long (u0 + u1)), .second] [(.long (u0 + u1))]))
                      refine own_st (fun _ k => XS.aloadN X108.here hx rfl (hb hby d4_22) rfl rfl k) ?_
                      show own_Go _ _ _ _ (T108.setTop (mkF m 23 #[.val (.ref ob), .val (.long (u0 + u1)), .second] [(.ref ob), (.long (u0 + u1))]))
                      obtain ⟨T109, X109, e109, st109⟩ := getF X108 hx hZ hown (host := "") (Or.inl (hw _ (List.mem_of_getElem? (i := 16) rfl))) Via.refl e108 Fw108 (g := (mkF m 23 #[.val (.ref ob), .val (.long (u0 + u1)), .second] [(.ref ob), (.long (u0 + u1))])) rfl rfl (hb hby d4_23)
                      refine own_st st109 ?_
                      show own_Go _ _ _ _ (T109.setTop (mkF m 26 #[.val (.ref ob), .val (.long (u0 + u1)), .second] [(.long (u0 + (31500000000 : Int64))), (.long (u0 + u1))]))
                      refine own_st (fun _ k => XS.lsub X109.here hx rfl (hb hby d4_26) rfl k) ?_
                      show own_Go _ _ _ _ (T109.setTop (mkF m 27 #[.val (.ref ob), .val (.long (u0 + u1)), .second] [(.long ((u0 + u1) - (u0 + (31500000000 : Int64))))]))
                      refine own_st (fun _ k => XS.lconst X109.here hx rfl (hb hby d4_27) k) ?_
                      show own_Go _ _ _ _ (T109.setTop (mkF m 28 #[.val (.ref ob), .val (.long (u0 + u1)), .second] [(.long (0 : Int64)), (.long ((u0 + u1) - (u0 + (31500000000 : Int64))))]))
                      refine own_st (fun _ k => XS.lcmp X109.here hx rfl (hb hby d4_28) rfl k) ?_
                      show own_Go _ _ _ _ (T109.setTop (mkF m 29 #[.val (.ref ob), .val (.long (u0 + u1)), .second] [(.int (lcmpW ((u0 + u1) - (u0 + (31500000000 : Int64))) (0 : Int64)))]))
                      by_cases hc110 : (lcmpW ((u0 + u1) - (u0 + (31500000000 : Int64))) (0 : Int64)) < (0 : Int32)
                      · skip
                        refine own_st (fun _ k => XS.ifYes X109.here hx rfl (pc0 := 29) (pc' := 79) rfl (hb hby d4_29) rfl ((if0 _ _).trans (tlt hc110).1) (by decide) (by decide) k) ?_
                        show own_Go _ _ _ _ (T109.setTop (mkF m 79 #[.val (.ref ob), .val (.long (u0 + u1)), .second] []))
                        refine own_st (fun _ k => XS.iconst X109.here hx rfl (hb hby d4_79) k) ?_
                        show own_Go _ _ _ _ (T109.setTop (mkF m 80 #[.val (.ref ob), .val (.long (u0 + u1)), .second] [(.int (1 : Int32))]))
                        obtain ⟨fs, hr, hrun, hended, hW, hsame⟩ := X109.leave (v := some (.int (1 : Int32))) (fun h => by rw [Bd.returns] at h; cases h)
                        refine own_out (retN X109 hx (t := .boolean) Bd.returns (by simp) (hb hby d4_80) hr) ⟨hrun, hended, _, _, rfl, ?_, ⟨_, rfl⟩, hW, hsame.mono (by decide) (by decide)⟩
                        show Q4_0 Z ob u0 u1 h0 n0 _ T109.heap _
                        have hv : own_nx0 u0 u1 = (u0 + (31500000000 : Int64)) := by
                          unfold own_nx0
                          rw [if_pos hc26, if_neg hc28, if_neg hc38, if_neg hc47, if_neg hc56, if_neg hc65, if_neg hc74, if_neg hc83, if_neg hc92, if_neg hc101, if_pos hc110]
                        rw [e109]
                        exact ⟨_, rfl, N108, K108, y108_E_ob, by rw [hv]; exact Fw108, y108_F_ob_timeoutAt⟩
                      · skip
                        refine own_st (fun _ k => XS.ifNo X109.here hx rfl (hb hby d4_29) rfl ((if0 _ _).trans (flt hc110).1) k) ?_
                        show own_Go _ _ _ _ (T109.setTop (mkF m 32 #[.val (.ref ob), .val (.long (u0 + u1)), .second] []))
                        refine own_st (fun _ k => XS.aloadN X109.here hx rfl (hb hby d4_32) rfl rfl k) ?_
                        show own_Go _ _ _ _ (T109.setTop (mkF m 33 #[.val (.ref ob), .val (.long (u0 + u1)), .second] [(.ref ob)]))
                        refine own_st (fun _ k => XS.aloadN X109.here hx rfl (hb hby d4_33) rfl rfl k) ?_
                        show own_Go _ _ _ _ (T109.setTop (mkF m 34 #[.val (.ref ob), .val (.long (u0 + u1)), .second] [(.ref ob), (.ref ob)]))
                        obtain ⟨T111, X111, e111, st111⟩ := getF X109 hx hZ hown (host := "") (Or.inl (hw _ (List.mem_of_getElem? (i := 43) rfl))) Via.refl e109 y108_F_ob_proceeding (g := (mkF m 34 #[.val (.ref ob), .val (.long (u0 + u1)), .second] [(.ref ob), (.ref ob)])) rfl rfl (hb hby d4_34)
                        refine own_st st111 ?_
                        show own_Go _ _ _ _ (T111.setTop (mkF m 37 #[.val (.ref ob), .val (.long (u0 + u1)), .second] [(.int (0 : Int32)), (.ref ob)]))
                        refine own_st (fun _ k => XS.ifYes X111.here hx rfl (pc0 := 37) (pc' := 46) rfl (hb hby d4_37) rfl ((if0 _ _).trans (teq (by decide : ((0 : Int32) = (0 : Int32)))).1) (by decide) (by decide) k) ?_
                        show own_Go _ _ _ _ (T111.setTop (mkF m 46 #[.val (.ref ob), .val (.long (u0 + u1)), .second] [(.ref ob)]))
                        refine own_st (fun _ k => X111.ldc2Long hx hown (mvT hZ (hw _ (List.mem_of_getElem? (i := 52) rfl))) (g := (mkF m 46 #[.val (.ref ob), .val (.long (u0 + u1)), .second] [(.ref ob)])) rfl (hb hby d4_46) _ k) ?_
                        show own_Go _ _ _ _ (T111.setTop (mkF m 49 #[.val (.ref ob), .val (.long (u0 + u1)), .second] [(.long (2 : Int64)), (.ref ob)]))
                        refine own_st (fun _ k => XS.aloadN X111.here hx rfl (hb hby d4_49) rfl rfl k) ?_
                        show own_Go _ _ _ _ (T111.setTop (mkF m 50 #[.val (.ref ob), .val (.long (u0 + u1)), .second] [(.ref ob), (.long (2 : Int64)), (.ref ob)]))
                        obtain ⟨T112, X112, e112, st112⟩ := getF X111 hx hZ hown (host := "") (Or.inl (hw _ (List.mem_of_getElem? (i := 11) rfl))) Via.refl e111 y108_F_ob_interval (g := (mkF m 50 #[.val (.ref ob), .val (.long (u0 + u1)), .second] [(.ref ob), (.long (2 : Int64)), (.ref ob)])) rfl rfl (hb hby d4_50)
                        refine own_st st112 ?_
                        show own_Go _ _ _ _ (T112.setTop (mkF m 53 #[.val (.ref ob), .val (.long (u0 + u1)), .second] [(.long (4000000000 : Int64)), (.long (2 : Int64)), (.ref ob)]))
                        refine own_st (fun _ k => XS.lmul X112.here hx rfl (hb hby d4_53) rfl k) ?_
                        show own_Go _ _ _ _ (T112.setTop (mkF m 54 #[.val (.ref ob), .val (.long (u0 + u1)), .second] [(.long (8000000000 : Int64)), (.ref ob)]))
                        refine own_st (fun _ k => X112.ldc2Long hx hown (mvT hZ (hw _ (List.mem_of_getElem? (i := 46) rfl))) (g := (mkF m 54 #[.val (.ref ob), .val (.long (u0 + u1)), .second] [(.long (8000000000 : Int64)), (.ref ob)])) rfl (hb hby d4_54) _ k) ?_
                        show own_Go _ _ _ _ (T112.setTop (mkF m 57 #[.val (.ref ob), .val (.long (u0 + u1)), .second] [(.long (4000000000 : Int64)), (.long (8000000000 : Int64)), (.ref ob)]))
                        obtain ⟨_, _, ⟨T113, L113, k113, n113⟩, -, X113, ⟨Lc113, hQ113, l113, y113, z113⟩, st113⟩ := Jvm.LawKit.callS X112 hx (y := (⟨"java/lang/Math", "min", "(JJ)J"⟩ : MethodName)) hown (mvT hZ (hw _ (List.mem_of_getElem? (i := 53) rfl))) (mvT hZ (hw _ (List.mem_of_getElem? (i := 49) rfl))) (mvT hZ (hw _ (List.mem_of_getElem? (i := 50) rfl))) (mvT hZ (hw _ (List.mem_of_getElem? (i := 51) rfl))) (by decide) (backOf (W := 1) (rm8 l Z a0 hw [] (8000000000 : Int64) (4000000000 : Int64) h108 n0 Z108 ) hZ (hw _ (List.mem_of_getElem? (i := 51) rfl)) (hw _ (List.mem_of_getElem? (i := 50) rfl)) (by decide) (by decide)) (g := (mkF m 57 #[.val (.ref ob), .val (.long (u0 + u1)), .second] [(.long (4000000000 : Int64)), (.long (8000000000 : Int64)), (.ref ob)])) rfl (by rw [hml]; rfl) (argsL := [(.long (8000000000 : Int64)), (.long (4000000000 : Int64))]) (rest := [(.ref ob)]) (lenOf own_pd0 rfl) rfl (by show 2 * 0 + _ ≤ _; exact Nat.le_of_eq rfl) (hb hby d4_57) (fun _ _ => ⟨rfl, e112, (by decide : 0 + 0 ≤ _), (by decide : 0 + 0 ≤ _)⟩)
                        dsimp only [Pt.U, Pt.locs, Pt.cells, Pt.slots] at X113 l113 y113 z113 st113 hQ113
                        rw [l113, y113, z113] at X113
                        obtain ⟨rfl, Nq113, eq113⟩ := hQ113
                        have N113 := Fr.app N108 Nq113
                        refine own_st st113 ?_
                        rw [show (own_mn (8000000000 : Int64) (4000000000 : Int64)) = (4000000000 : Int64) from by decide]
                        show own_Go _ _ _ _ (T113.setTop (mkF m 60 #[.val (.ref ob), .val (.long (u0 + u1)), .second] [(.long (4000000000 : Int64)), (.ref ob)]))
                        obtain ⟨T114, h114, X114, e114, W114, st114⟩ := putF X113 hx hZ hown (host := "") (Or.inl (hw _ (List.mem_of_getElem? (i := 11) rfl))) Via.refl eq113 y108_F_ob_interval y108_E_ob (Or.inl (hw _ (List.mem_of_getElem? (i := 12) rfl))) (hw _ (List.mem_of_getElem? (i := 2) rfl)) (ty := .long) (by decide) rfl rfl (g := (mkF m 60 #[.val (.ref ob), .val (.long (u0 + u1)), .second] [(.long (4000000000 : Int64)), (.ref ob)])) rfl rfl (hb hby d4_60)
                        refine own_st st114 ?_
                        have Fw114 : Fld Z h114 ob "com/example/troskel/troskel/service/RetransmissionTimer" "interval" "J" (.long (4000000000 : Int64)) := y108_F_ob_interval.same W114
                        have y114_E_ob := y108_E_ob.wr W114
                        have y114_F_ob_timeoutAt := y108_F_ob_timeoutAt.other W114 (Or.inr (slot_ne (Or.inr (hw _ (List.mem_of_getElem? (i := 15) rfl))) (Or.inl (hw _ (List.mem_of_getElem? (i := 12) rfl))) (by decide) (t := .long) (t' := .long) (by decide) (by decide)))
                        have y114_F_ob_next := Fw108.other W114 (Or.inr (slot_ne (Or.inl (hw _ (List.mem_of_getElem? (i := 17) rfl))) (Or.inl (hw _ (List.mem_of_getElem? (i := 12) rfl))) (by decide) (t := .long) (t' := .long) (by decide) (by decide)))
                        have y114_F_ob_proceeding := y108_F_ob_proceeding.other W114 (Or.inr (slot_ne (Or.inl (hw _ (List.mem_of_getElem? (i := 44) rfl))) (Or.inl (hw _ (List.mem_of_getElem? (i := 12) rfl))) (by decide) (t := .boolean) (t' := .long) (by decide) (by decide)))
                        have Z114 : n0 ≤ h114.size := Nat.le_trans Z108 (Nat.le_of_eq W114.size.symm)
                        have N114 := Fr.snoc X114 N113 gnob
                        have K114 : Keep h0 h114 [ob] := K108.wr W114 (Or.inl (by simp))
                        show own_Go _ _ _ _ (T114.setTop (mkF m 63 #[.val (.ref ob), .val (.long (u0 + u1)), .second] []))
                        refine own_st (fun _ k => XS.aloadN X114.here hx rfl (hb hby d4_63) rfl rfl k) ?_
                        show own_Go _ _ _ _ (T114.setTop (mkF m 64 #[.val (.ref ob), .val (.long (u0 + u1)), .second] [(.ref ob)]))
                        refine own_st (fun _ k => XS.dup X114.here hx rfl (hb hby d4_64) rfl rfl k) ?_
                        show own_Go _ _ _ _ (T114.setTop (mkF m 65 #[.val (.ref ob), .val (.long (u0 + u1)), .second] [(.ref ob), (.ref ob)]))
                        obtain ⟨T115, X115, e115, st115⟩ := getF X114 hx hZ hown (host := "") (Or.inl (hw _ (List.mem_of_getElem? (i := 16) rfl))) Via.refl e114 y114_F_ob_next (g := (mkF m 65 #[.val (.ref ob), .val (.long (u0 + u1)), .second] [(.ref ob), (.ref ob)])) rfl rfl (hb hby d4_65)
                        refine own_st st115 ?_
                        show own_Go _ _ _ _ (T115.setTop (mkF m 68 #[.val (.ref ob), .val (.long (u0 + u1)), .second] [(.long (u0 + (31500000000 : Int64))), (.ref ob)]))
                        refine own_st (fun _ k => XS.aloadN X115.here hx rfl (hb hby d4_68) rfl rfl k) ?_
                        show own_Go _ _ _ _ (T115.setTop (mkF m 69 #[.val (.ref ob), .val (.long (u0 + u1)), .second] [(.ref ob), (.long (u0 + (31500000000 : Int64))), (.ref ob)]))
                        obtain ⟨T116, X116, e116, st116⟩ := getF X115 hx hZ hown (host := "") (Or.inl (hw _ (List.mem_of_getElem? (i := 11) rfl))) Via.refl e115 Fw114 (g := (mkF m 69 #[.val (.ref ob), .val (.long (u0 + u1)), .second] [(.ref ob), (.long (u0 + (31500000000 : Int64))), (.ref ob)])) rfl rfl (hb hby d4_69)
                        refine own_st st116 ?_
                        show own_Go _ _ _ _ (T116.setTop (mkF m 72 #[.val (.ref ob), .val (.long (u0 + u1)), .second] [(.long (4000000000 : Int64)), (.long (u0 + (31500000000 : Int64))), (.ref ob)]))
                        refine own_st (fun _ k => XS.ladd X116.here hx rfl (hb hby d4_72) rfl k) ?_
                        rw [show ((u0 + (31500000000 : Int64)) + (4000000000 : Int64)) = (u0 + (35500000000 : Int64)) from by rw [Int64.add_assoc, show (31500000000 : Int64) + (4000000000 : Int64) = (35500000000 : Int64) from by decide]]
                        show own_Go _ _ _ _ (T116.setTop (mkF m 73 #[.val (.ref ob), .val (.long (u0 + u1)), .second] [(.long (u0 + (35500000000 : Int64))), (.ref ob)]))
                        obtain ⟨T117, h117, X117, e117, W117, st117⟩ := putF X116 hx hZ hown (host := "") (Or.inl (hw _ (List.mem_of_getElem? (i := 16) rfl))) Via.refl e116 y114_F_ob_next y114_E_ob (Or.inl (hw _ (List.mem_of_getElem? (i := 17) rfl))) (hw _ (List.mem_of_getElem? (i := 2) rfl)) (ty := .long) (by decide) rfl rfl (g := (mkF m 73 #[.val (.ref ob), .val (.long (u0 + u1)), .second] [(.long (u0 + (35500000000 : Int64))), (.ref ob)])) rfl rfl (hb hby d4_73)
                        refine own_st st117 ?_
                        have Fw117 : Fld Z h117 ob "com/example/troskel/troskel/service/RetransmissionTimer" "next" "J" (.long (u0 + (35500000000 : Int64))) := y114_F_ob_next.same W117
                        have y117_E_ob := y114_E_ob.wr W117
                        have y117_F_ob_interval := Fw114.other W117 (Or.inr (slot_ne (Or.inl (hw _ (List.mem_of_getElem? (i := 12) rfl))) (Or.inl (hw _ (List.mem_of_getElem? (i := 17) rfl))) (by decide) (t := .long) (t' := .long) (by decide) (by decide)))
                        have y117_F_ob_timeoutAt := y114_F_ob_timeoutAt.other W117 (Or.inr (slot_ne (Or.inr (hw _ (List.mem_of_getElem? (i := 15) rfl))) (Or.inl (hw _ (List.mem_of_getElem? (i := 17) rfl))) (by decide) (t := .long) (t' := .long) (by decide) (by decide)))
                        have y117_F_ob_proceeding := y114_F_ob_proceeding.other W117 (Or.inr (slot_ne (Or.inl (hw _ (List.mem_of_getElem? (i := 44) rfl))) (Or.inl (hw _ (List.mem_of_getElem? (i := 17) rfl))) (by decide) (t := .boolean) (t' := .long) (by decide) (by decide)))
                        have Z117 : n0 ≤ h117.size := Nat.le_trans Z114 (Nat.le_of_eq W117.size.symm)
                        have N117 := Fr.snoc X117 N114 gnob
                        have K117 : Keep h0 h117 [ob] := K114.wr W117 (Or.inl (by simp))
                        show own_Go _ _ _ _ (T117.setTop (mkF m 76 #[.val (.ref ob), .val (.long (u0 + u1)), .second] []))
                        refine own_st (fun _ k => XS.goto X117.here hx rfl (pc0 := 76) (pc' := 21) rfl (hb hby d4_76) (by decide) (by decide) k) ?_
                        show own_Go _ _ _ _ (T117.setTop (mkF m 21 #[.val (.ref ob), .val (.long (u0 + u1)), .second] []))
                        refine own_st (fun _ k => XS.lloadN X117.here hx rfl (hb hby d4_21) rfl k) ?_
                        show own_Go _ _ _ _ (T117.setTop (mkF m 22 #[.val (.ref ob), .val (.long (u0 + u1)), .second] [(.long (u0 + u1))]))
                        refine own_st (fun _ k => XS.aloadN X117.here hx rfl (hb hby d4_22) rfl rfl k) ?_
                        show own_Go _ _ _ _ (T117.setTop (mkF m 23 #[.val (.ref ob), .val (.long (u0 + u1)), .second] [(.ref ob), (.long (u0 + u1))]))
                        obtain ⟨T118, X118, e118, st118⟩ := getF X117 hx hZ hown (host := "") (Or.inl (hw _ (List.mem_of_getElem? (i := 16) rfl))) Via.refl e117 Fw117 (g := (mkF m 23 #[.val (.ref ob), .val (.long (u0 + u1)), .second] [(.ref ob), (.long (u0 + u1))])) rfl rfl (hb hby d4_23)
                        refine own_st st118 ?_
                        show own_Go _ _ _ _ (T118.setTop (mkF m 26 #[.val (.ref ob), .val (.long (u0 + u1)), .second] [(.long (u0 + (35500000000 : Int64))), (.long (u0 + u1))]))
                        refine own_st (fun _ k => XS.lsub X118.here hx rfl (hb hby d4_26) rfl k) ?_
                        show own_Go _ _ _ _ (T118.setTop (mkF m 27 #[.val (.ref ob), .val (.long (u0 + u1)), .second] [(.long ((u0 + u1) - (u0 + (35500000000 : Int64))))]))
                        refine own_st (fun _ k => XS.lconst X118.here hx rfl (hb hby d4_27) k) ?_
                        show own_Go _ _ _ _ (T118.setTop (mkF m 28 #[.val (.ref ob), .val (.long (u0 + u1)), .second] [(.long (0 : Int64)), (.long ((u0 + u1) - (u0 + (35500000000 : Int64))))]))
                        refine own_st (fun _ k => XS.lcmp X118.here hx rfl (hb hby d4_28) rfl k) ?_
                        show own_Go _ _ _ _ (T118.setTop (mkF m 29 #[.val (.ref ob), .val (.long (u0 + u1)), .second] [(.int (lcmpW ((u0 + u1) - (u0 + (35500000000 : Int64))) (0 : Int64)))]))
                        refine own_st (fun _ k => XS.ifYes X118.here hx rfl (pc0 := 29) (pc' := 79) rfl (hb hby d4_29) rfl ((if0 _ _).trans (tlt ((own_lt u0 u1 (35500000000 : Int64) hk (by decide)).mpr (by have q := (own_toz u0 u1 hk).mp hc26; simp only [Int64.reduceToInt]; omega))).1) (by decide) (by decide) k) ?_
                        show own_Go _ _ _ _ (T118.setTop (mkF m 79 #[.val (.ref ob), .val (.long (u0 + u1)), .second] []))
                        refine own_st (fun _ k => XS.iconst X118.here hx rfl (hb hby d4_79) k) ?_
                        show own_Go _ _ _ _ (T118.setTop (mkF m 80 #[.val (.ref ob), .val (.long (u0 + u1)), .second] [(.int (1 : Int32))]))
                        obtain ⟨fs, hr, hrun, hended, hW, hsame⟩ := X118.leave (v := some (.int (1 : Int32))) (fun h => by rw [Bd.returns] at h; cases h)
                        refine own_out (retN X118 hx (t := .boolean) Bd.returns (by simp) (hb hby d4_80) hr) ⟨hrun, hended, _, _, rfl, ?_, ⟨_, rfl⟩, hW, hsame.mono (by decide) (by decide)⟩
                        show Q4_0 Z ob u0 u1 h0 n0 _ T118.heap _
                        have hv : own_nx0 u0 u1 = (u0 + (35500000000 : Int64)) := by
                          unfold own_nx0
                          rw [if_pos hc26, if_neg hc28, if_neg hc38, if_neg hc47, if_neg hc56, if_neg hc65, if_neg hc74, if_neg hc83, if_neg hc92, if_neg hc101, if_neg hc110]
                        rw [e118]
                        exact ⟨_, rfl, N117, K117, y117_E_ob, by rw [hv]; exact Fw117, y117_F_ob_timeoutAt⟩
  · skip
    refine own_st (fun _ k => XS.ifYes X25.here hx rfl (pc0 := 5) (pc' := 19) rfl (hb hby d4_5) rfl ((if0 _ _).trans (feq hc26).2) (by decide) (by decide) k) ?_
    show own_Go _ _ _ _ (T25.setTop (mkF m 19 #[.val (.ref ob), .val (.long (u0 + u1)), .second] []))
    refine own_st (fun _ k => XS.iconst X25.here hx rfl (hb hby d4_19) k) ?_
    show own_Go _ _ _ _ (T25.setTop (mkF m 20 #[.val (.ref ob), .val (.long (u0 + u1)), .second] [(.int (0 : Int32))]))
    obtain ⟨fs, hr, hrun, hended, hW, hsame⟩ := X25.leave (v := some (.int (0 : Int32))) (fun h => by rw [Bd.returns] at h; cases h)
    refine own_out (retN X25 hx (t := .boolean) Bd.returns (by simp) (hb hby d4_20) hr) ⟨hrun, hended, _, _, rfl, ?_, ⟨_, rfl⟩, hW, hsame.mono (by decide) (by decide)⟩
    show Q4_0 Z ob u0 u1 h0 n0 _ T25.heap _
    have hv : own_nx0 u0 u1 = (u0 + (500000000 : Int64)) := by
      unfold own_nx0
      rw [if_neg hc26]
    rw [eq25]
    exact ⟨_, rfl, N25, K0, E_ob, by rw [hv]; exact F_next, F_timeoutAt⟩
def own_nx1 (u0 u1 : Int64) : Int64 := (if (own_to (u0 + u1) (u0 + (32000000000 : Int64))) = (0 : Int32) then (if (lcmpW ((u0 + u1) - (u0 + (500000000 : Int64))) (0 : Int64)) < (0 : Int32) then (u0 + (500000000 : Int64)) else (if (lcmpW ((u0 + u1) - (u0 + (4500000000 : Int64))) (0 : Int64)) < (0 : Int32) then (u0 + (4500000000 : Int64)) else (if (lcmpW ((u0 + u1) - (u0 + (8500000000 : Int64))) (0 : Int64)) < (0 : Int32) then (u0 + (8500000000 : Int64)) else (if (lcmpW ((u0 + u1) - (u0 + (12500000000 : Int64))) (0 : Int64)) < (0 : Int32) then (u0 + (12500000000 : Int64)) else (if (lcmpW ((u0 + u1) - (u0 + (16500000000 : Int64))) (0 : Int64)) < (0 : Int32) then (u0 + (16500000000 : Int64)) else (if (lcmpW ((u0 + u1) - (u0 + (20500000000 : Int64))) (0 : Int64)) < (0 : Int32) then (u0 + (20500000000 : Int64)) else (if (lcmpW ((u0 + u1) - (u0 + (24500000000 : Int64))) (0 : Int64)) < (0 : Int32) then (u0 + (24500000000 : Int64)) else (if (lcmpW ((u0 + u1) - (u0 + (28500000000 : Int64))) (0 : Int64)) < (0 : Int32) then (u0 + (28500000000 : Int64)) else (u0 + (32500000000 : Int64)))))))))) else (u0 + (500000000 : Int64)))
def Q4_1 (Z : State) (ob : Addr) (u0 : Int64) (u1 : Int64) (h0 : Heap) (n0 : Nat) (v : Option Value) (h : Heap) (L : List Loc) : Prop := ∃ r : Int32, v = some (.int r) ∧ Fr n0 L ∧ Keep h0 h [ob] ∧ Exa Z h ob "com/example/troskel/troskel/service/RetransmissionTimer" ∧ Fld Z h ob "com/example/troskel/troskel/service/RetransmissionTimer" "next" "J" (.long (own_nx1 u0 u1)) ∧ Fld Z h ob "com/example/troskel/troskel/service/RetransmissionTimer" "timeoutAt" "J" (.long (u0 + (32000000000 : Int64)))
theorem ef_4_1 (m : MethodId) (x0 : Addr) (x1 : Int64) : entryFrame m #[(.ref x0), (.long x1)] 3 = mkF m 0 #[.val (.ref x0), .val (.long x1), .second] [] := by first | (simp [entryFrame, mkF, argsToLocals, Value.category]; done) | rfl
set_option maxRecDepth 65536 in
set_option maxHeartbeats 40000000 in
theorem rm4_1 (l : Launch) (Z : State) (a0 : Array Value) (hw : ∀ d ∈ tables_1, d.before a0 Z = true) (ws : List Jvm.Cond) (ob : Addr) (u0 : Int64) (u1 : Int64) (h0 : Heap) (n0 : Nat) (Z0 : n0 ≤ h0.size) (E_ob : Exa Z h0 ob "com/example/troskel/troskel/service/RetransmissionTimer") (gnob : n0 ≤ ob) (F_interval : Fld Z h0 ob "com/example/troskel/troskel/service/RetransmissionTimer" "interval" "J" (.long (500000000 : Int64))) (F_timeoutAt : Fld Z h0 ob "com/example/troskel/troskel/service/RetransmissionTimer" "timeoutAt" "J" (.long (u0 + (32000000000 : Int64)))) (F_next : Fld Z h0 ob "com/example/troskel/troskel/service/RetransmissionTimer" "next" "J" (.long (u0 + (500000000 : Int64)))) (F_proceeding : Fld Z h0 ob "com/example/troskel/troskel/service/RetransmissionTimer" "proceeding" "Z" (.int (1 : Int32))) (hk : own_rg u1) :
    MetFree l (⟨"com/example/troskel/troskel/service/RetransmissionTimer", "retransmits", "(J)Z"⟩ : MethodName) (head1 (Jvm.Cond.code (⟨"com/example/troskel/troskel/service/RetransmissionTimer", "retransmits", "(J)Z"⟩ : MethodName) prog_49_method_4_code 3 (some .boolean) :: ws) ({ frames := 1, cells := 0, slots := 0, locals := 30 } : Room)) (fun a U => a = #[(.ref ob), (.long (u0 + u1))] ∧ Z.Warmed39 U.vm ∧ U.heap = h0) (fun _ _ _ _ _ => True) (fun _ U o U' => ∃ v L, o = .returned v ∧ Q4_1 Z ob u0 u1 h0 n0 v U'.heap L ∧ FrameEnd U o U' L ({ frames := 1, cells := 0, slots := 0, locals := 30 } : Room).cells ({ frames := 1, cells := 0, slots := 0, locals := 30 } : Room).slots) := by
  refine MetFree.of_bodySF (plainFor_of_name own_pn0) hisR ?_
  intro p e s m args below meth c s₁ Bd hml0 hP hK
  obtain ⟨rfl, hZ, hh⟩ := hP
  have hx := Bd.exec
  have hby := Bd.bytes
  have hml : c.maxLocals = 3 := hml0
  have hown : s.vm.findClass "com/example/troskel/troskel/service/RetransmissionTimer" = some m.cls := findClass_of_methodNamed Bd.named
  have hnm := (name_of_methodNamed Bd.named Bd.method).1
  have X0 : Stand p l e ({ frames := 1, cells := 0, slots := 0, locals := 30 } : Room) s m #[(.ref ob), (.long (u0 + u1))] below meth c s₁ [] 0 0 := Stand.of_body Bd
  have e0 : s₁.heap = h0 := by rw [← hh, Bd.state]; rfl
  have N0 := Fr.nil n0
  refine own_in ?_
  refine own_st (fun _ k => castTop (ef_4_1 m ob (u0 + u1)) k) ?_
  have K0 : Keep h0 h0 [ob] := Keep.refl h0 [ob]
  show own_Go _ _ _ _ (s₁.setTop (mkF m 0 #[.val (.ref ob), .val (.long (u0 + u1)), .second] []))
  refine own_st (fun _ k => XS.aloadN X0.here hx rfl (hb hby d4_0) rfl rfl k) ?_
  show own_Go _ _ _ _ (s₁.setTop (mkF m 1 #[.val (.ref ob), .val (.long (u0 + u1)), .second] [(.ref ob)]))
  refine own_st (fun _ k => XS.lloadN X0.here hx rfl (hb hby d4_1) rfl k) ?_
  show own_Go _ _ _ _ (s₁.setTop (mkF m 2 #[.val (.ref ob), .val (.long (u0 + u1)), .second] [(.long (u0 + u1)), (.ref ob)]))
  obtain ⟨cq119, kq119, q119a, q119b, q119c⟩ := isOf hZ e0 E_ob
  obtain ⟨_, _, ⟨T119, L119, k119, n119⟩, -, X119, ⟨Lc119, hQ119, l119, y119, z119⟩, st119⟩ := X0.virtualBack hx (y := (⟨"com/example/troskel/troskel/service/RetransmissionTimer", "timedOut", "(J)Z"⟩ : MethodName)) (z := (⟨"com/example/troskel/troskel/service/RetransmissionTimer", "timedOut", "(J)Z"⟩ : MethodName)) hown (mvT hZ (hw _ (List.mem_of_getElem? (i := 29) rfl))) (mvT hZ (hw _ (List.mem_of_getElem? (i := 30) rfl))) (notFace_of_selects (args := #[]) (mvT hZ (hw _ (List.mem_of_getElem? (i := 32) rfl)))) (mvT hZ (hw _ (List.mem_of_getElem? (i := 32) rfl))) (mvT hZ (hw _ (List.mem_of_getElem? (i := 31) rfl))) (by decide) (backOf (W := 0) (rm5 l Z a0 hw [] ob (u0 + u1) (u0 + (32000000000 : Int64)) h0 n0 Z0 F_timeoutAt ) hZ (hw _ (List.mem_of_getElem? (i := 33) rfl)) (hw _ (List.mem_of_getElem? (i := 3) rfl)) (by decide) (by decide)) q119a q119c (g := (mkF m 2 #[.val (.ref ob), .val (.long (u0 + u1)), .second] [(.long (u0 + u1)), (.ref ob)])) rfl (by rw [hml]; rfl) (Steps.refl _) (argsL := [(.long (u0 + u1))]) (rest := []) (lenOf own_pd2 rfl) rfl (by show 2 * 0 + _ ≤ _; exact Nat.le_of_eq rfl) (hb hby d4_2) (fun _ _ => ⟨rfl, e0, (by decide : 0 + 0 ≤ _), (by decide : 0 + 0 ≤ _)⟩)
  dsimp only [Pt.U, Pt.locs, Pt.cells, Pt.slots] at X119 l119 y119 z119 st119 hQ119
  rw [l119, y119, z119] at X119
  obtain ⟨rfl, Nq119, eq119⟩ := hQ119
  have N119 := Fr.app N0 Nq119
  refine own_tr st119 ?_
  show own_Go _ _ _ _ (T119.setTop (mkF m 5 #[.val (.ref ob), .val (.long (u0 + u1)), .second] [(.int (own_to (u0 + u1) (u0 + (32000000000 : Int64))))]))
  by_cases hc120 : (own_to (u0 + u1) (u0 + (32000000000 : Int64))) = (0 : Int32)
  · skip
    refine own_st (fun _ k => XS.ifNo X119.here hx rfl (hb hby d4_5) rfl ((if0 _ _).trans (teq hc120).2) k) ?_
    show own_Go _ _ _ _ (T119.setTop (mkF m 8 #[.val (.ref ob), .val (.long (u0 + u1)), .second] []))
    refine own_st (fun _ k => XS.lloadN X119.here hx rfl (hb hby d4_8) rfl k) ?_
    show own_Go _ _ _ _ (T119.setTop (mkF m 9 #[.val (.ref ob), .val (.long (u0 + u1)), .second] [(.long (u0 + u1))]))
    refine own_st (fun _ k => XS.aloadN X119.here hx rfl (hb hby d4_9) rfl rfl k) ?_
    show own_Go _ _ _ _ (T119.setTop (mkF m 10 #[.val (.ref ob), .val (.long (u0 + u1)), .second] [(.ref ob), (.long (u0 + u1))]))
    obtain ⟨T121, X121, e121, st121⟩ := getF X119 hx hZ hown (host := "") (Or.inl (hw _ (List.mem_of_getElem? (i := 16) rfl))) Via.refl eq119 F_next (g := (mkF m 10 #[.val (.ref ob), .val (.long (u0 + u1)), .second] [(.ref ob), (.long (u0 + u1))])) rfl rfl (hb hby d4_10)
    refine own_st st121 ?_
    show own_Go _ _ _ _ (T121.setTop (mkF m 13 #[.val (.ref ob), .val (.long (u0 + u1)), .second] [(.long (u0 + (500000000 : Int64))), (.long (u0 + u1))]))
    refine own_st (fun _ k => XS.lsub X121.here hx rfl (hb hby d4_13) rfl k) ?_
    show own_Go _ _ _ _ (T121.setTop (mkF m 14 #[.val (.ref ob), .val (.long (u0 + u1)), .second] [(.long ((u0 + u1) - (u0 + (500000000 : Int64))))]))
    refine own_st (fun _ k => XS.lconst X121.here hx rfl (hb hby d4_14) k) ?_
    show own_Go _ _ _ _ (T121.setTop (mkF m 15 #[.val (.ref ob), .val (.long (u0 + u1)), .second] [(.long (0 : Int64)), (.long ((u0 + u1) - (u0 + (500000000 : Int64))))]))
    refine own_st (fun _ k => XS.lcmp X121.here hx rfl (hb hby d4_15) rfl k) ?_
    show own_Go _ _ _ _ (T121.setTop (mkF m 16 #[.val (.ref ob), .val (.long (u0 + u1)), .second] [(.int (lcmpW ((u0 + u1) - (u0 + (500000000 : Int64))) (0 : Int64)))]))
    by_cases hc122 : (lcmpW ((u0 + u1) - (u0 + (500000000 : Int64))) (0 : Int64)) < (0 : Int32)
    · skip
      refine own_st (fun _ k => XS.ifNo X121.here hx rfl (hb hby d4_16) rfl ((if0 _ _).trans (tlt hc122).2.1) k) ?_
      show own_Go _ _ _ _ (T121.setTop (mkF m 19 #[.val (.ref ob), .val (.long (u0 + u1)), .second] []))
      refine own_st (fun _ k => XS.iconst X121.here hx rfl (hb hby d4_19) k) ?_
      show own_Go _ _ _ _ (T121.setTop (mkF m 20 #[.val (.ref ob), .val (.long (u0 + u1)), .second] [(.int (0 : Int32))]))
      obtain ⟨fs, hr, hrun, hended, hW, hsame⟩ := X121.leave (v := some (.int (0 : Int32))) (fun h => by rw [Bd.returns] at h; cases h)
      refine own_out (retN X121 hx (t := .boolean) Bd.returns (by simp) (hb hby d4_20) hr) ⟨hrun, hended, _, _, rfl, ?_, ⟨_, rfl⟩, hW, hsame.mono (by decide) (by decide)⟩
      show Q4_1 Z ob u0 u1 h0 n0 _ T121.heap _
      have hv : own_nx1 u0 u1 = (u0 + (500000000 : Int64)) := by
        unfold own_nx1
        rw [if_pos hc120, if_pos hc122]
      rw [e121]
      exact ⟨_, rfl, N119, K0, E_ob, by rw [hv]; exact F_next, F_timeoutAt⟩
    · skip
      refine own_st (fun _ k => XS.ifYes X121.here hx rfl (pc0 := 16) (pc' := 21) rfl (hb hby d4_16) rfl ((if0 _ _).trans (flt hc122).2.1) (by decide) (by decide) k) ?_
      show own_Go _ _ _ _ (T121.setTop (mkF m 21 #[.val (.ref ob), .val (.long (u0 + u1)), .second] []))
      refine own_st (fun _ k => XS.lloadN X121.here hx rfl (hb hby d4_21) rfl k) ?_
      show own_Go _ _ _ _ (T121.setTop (mkF m 22 #[.val (.ref ob), .val (.long (u0 + u1)), .second] [(.long (u0 + u1))]))
      refine own_st (fun _ k => XS.aloadN X121.here hx rfl (hb hby d4_22) rfl rfl k) ?_
      show own_Go _ _ _ _ (T121.setTop (mkF m 23 #[.val (.ref ob), .val (.long (u0 + u1)), .second] [(.ref ob), (.long (u0 + u1))]))
      obtain ⟨T123, X123, e123, st123⟩ := getF X121 hx hZ hown (host := "") (Or.inl (hw _ (List.mem_of_getElem? (i := 16) rfl))) Via.refl e121 F_next (g := (mkF m 23 #[.val (.ref ob), .val (.long (u0 + u1)), .second] [(.ref ob), (.long (u0 + u1))])) rfl rfl (hb hby d4_23)
      refine own_st st123 ?_
      show own_Go _ _ _ _ (T123.setTop (mkF m 26 #[.val (.ref ob), .val (.long (u0 + u1)), .second] [(.long (u0 + (500000000 : Int64))), (.long (u0 + u1))]))
      refine own_st (fun _ k => XS.lsub X123.here hx rfl (hb hby d4_26) rfl k) ?_
      show own_Go _ _ _ _ (T123.setTop (mkF m 27 #[.val (.ref ob), .val (.long (u0 + u1)), .second] [(.long ((u0 + u1) - (u0 + (500000000 : Int64))))]))
      refine own_st (fun _ k => XS.lconst X123.here hx rfl (hb hby d4_27) k) ?_
      show own_Go _ _ _ _ (T123.setTop (mkF m 28 #[.val (.ref ob), .val (.long (u0 + u1)), .second] [(.long (0 : Int64)), (.long ((u0 + u1) - (u0 + (500000000 : Int64))))]))
      refine own_st (fun _ k => XS.lcmp X123.here hx rfl (hb hby d4_28) rfl k) ?_
      show own_Go _ _ _ _ (T123.setTop (mkF m 29 #[.val (.ref ob), .val (.long (u0 + u1)), .second] [(.int (lcmpW ((u0 + u1) - (u0 + (500000000 : Int64))) (0 : Int64)))]))
      refine own_st (fun _ k => XS.ifNo X123.here hx rfl (hb hby d4_29) rfl ((if0 _ _).trans (flt (hc122)).1) k) ?_
      show own_Go _ _ _ _ (T123.setTop (mkF m 32 #[.val (.ref ob), .val (.long (u0 + u1)), .second] []))
      refine own_st (fun _ k => XS.aloadN X123.here hx rfl (hb hby d4_32) rfl rfl k) ?_
      show own_Go _ _ _ _ (T123.setTop (mkF m 33 #[.val (.ref ob), .val (.long (u0 + u1)), .second] [(.ref ob)]))
      refine own_st (fun _ k => XS.aloadN X123.here hx rfl (hb hby d4_33) rfl rfl k) ?_
      show own_Go _ _ _ _ (T123.setTop (mkF m 34 #[.val (.ref ob), .val (.long (u0 + u1)), .second] [(.ref ob), (.ref ob)]))
      obtain ⟨T124, X124, e124, st124⟩ := getF X123 hx hZ hown (host := "") (Or.inl (hw _ (List.mem_of_getElem? (i := 43) rfl))) Via.refl e123 F_proceeding (g := (mkF m 34 #[.val (.ref ob), .val (.long (u0 + u1)), .second] [(.ref ob), (.ref ob)])) rfl rfl (hb hby d4_34)
      refine own_st st124 ?_
      show own_Go _ _ _ _ (T124.setTop (mkF m 37 #[.val (.ref ob), .val (.long (u0 + u1)), .second] [(.int (1 : Int32)), (.ref ob)]))
      refine own_st (fun _ k => XS.ifNo X124.here hx rfl (hb hby d4_37) rfl ((if0 _ _).trans (feq (by decide : ¬ ((1 : Int32) = (0 : Int32)))).1) k) ?_
      show own_Go _ _ _ _ (T124.setTop (mkF m 40 #[.val (.ref ob), .val (.long (u0 + u1)), .second] [(.ref ob)]))
      refine own_st (fun _ k => X124.ldc2Long hx hown (mvT hZ (hw _ (List.mem_of_getElem? (i := 46) rfl))) (g := (mkF m 40 #[.val (.ref ob), .val (.long (u0 + u1)), .second] [(.ref ob)])) rfl (hb hby d4_40) _ k) ?_
      show own_Go _ _ _ _ (T124.setTop (mkF m 43 #[.val (.ref ob), .val (.long (u0 + u1)), .second] [(.long (4000000000 : Int64)), (.ref ob)]))
      refine own_st (fun _ k => XS.goto X124.here hx rfl (pc0 := 43) (pc' := 60) rfl (hb hby d4_43) (by decide) (by decide) k) ?_
      show own_Go _ _ _ _ (T124.setTop (mkF m 60 #[.val (.ref ob), .val (.long (u0 + u1)), .second] [(.long (4000000000 : Int64)), (.ref ob)]))
      obtain ⟨T125, h125, X125, e125, W125, st125⟩ := putF X124 hx hZ hown (host := "") (Or.inl (hw _ (List.mem_of_getElem? (i := 11) rfl))) Via.refl e124 F_interval E_ob (Or.inl (hw _ (List.mem_of_getElem? (i := 12) rfl))) (hw _ (List.mem_of_getElem? (i := 2) rfl)) (ty := .long) (by decide) rfl rfl (g := (mkF m 60 #[.val (.ref ob), .val (.long (u0 + u1)), .second] [(.long (4000000000 : Int64)), (.ref ob)])) rfl rfl (hb hby d4_60)
      refine own_st st125 ?_
      have Fw125 : Fld Z h125 ob "com/example/troskel/troskel/service/RetransmissionTimer" "interval" "J" (.long (4000000000 : Int64)) := F_interval.same W125
      have y125_E_ob := E_ob.wr W125
      have y125_F_ob_timeoutAt := F_timeoutAt.other W125 (Or.inr (slot_ne (Or.inr (hw _ (List.mem_of_getElem? (i := 15) rfl))) (Or.inl (hw _ (List.mem_of_getElem? (i := 12) rfl))) (by decide) (t := .long) (t' := .long) (by decide) (by decide)))
      have y125_F_ob_next := F_next.other W125 (Or.inr (slot_ne (Or.inl (hw _ (List.mem_of_getElem? (i := 17) rfl))) (Or.inl (hw _ (List.mem_of_getElem? (i := 12) rfl))) (by decide) (t := .long) (t' := .long) (by decide) (by decide)))
      have y125_F_ob_proceeding := F_proceeding.other W125 (Or.inr (slot_ne (Or.inl (hw _ (List.mem_of_getElem? (i := 44) rfl))) (Or.inl (hw _ (List.mem_of_getElem? (i := 12) rfl))) (by decide) (t := .boolean) (t' := .long) (by decide) (by decide)))
      have Z125 : n0 ≤ h125.size := Nat.le_trans Z0 (Nat.le_of_eq W125.size.symm)
      have N125 := Fr.snoc X125 N119 gnob
      have K125 : Keep h0 h125 [ob] := K0.wr W125 (Or.inl (by simp))
      show own_Go _ _ _ _ (T125.setTop (mkF m 63 #[.val (.ref ob), .val (.long (u0 + u1)), .second] []))
      refine own_st (fun _ k => XS.aloadN X125.here hx rfl (hb hby d4_63) rfl rfl k) ?_
      show own_Go _ _ _ _ (T125.setTop (mkF m 64 #[.val (.ref ob), .val (.long (u0 + u1)), .second] [(.ref ob)]))
      refine own_st (fun _ k => XS.dup X125.here hx rfl (hb hby d4_64) rfl rfl k) ?_
      show own_Go _ _ _ _ (T125.setTop (mkF m 65 #[.val (.ref ob), .val (.long (u0 + u1)), .second] [(.ref ob), (.ref ob)]))
      obtain ⟨T126, X126, e126, st126⟩ := getF X125 hx hZ hown (host := "") (Or.inl (hw _ (List.mem_of_getElem? (i := 16) rfl))) Via.refl e125 y125_F_ob_next (g := (mkF m 65 #[.val (.ref ob), .val (.long (u0 + u1)), .second] [(.ref ob), (.ref ob)])) rfl rfl (hb hby d4_65)
      refine own_st st126 ?_
      show own_Go _ _ _ _ (T126.setTop (mkF m 68 #[.val (.ref ob), .val (.long (u0 + u1)), .second] [(.long (u0 + (500000000 : Int64))), (.ref ob)]))
      refine own_st (fun _ k => XS.aloadN X126.here hx rfl (hb hby d4_68) rfl rfl k) ?_
      show own_Go _ _ _ _ (T126.setTop (mkF m 69 #[.val (.ref ob), .val (.long (u0 + u1)), .second] [(.ref ob), (.long (u0 + (500000000 : Int64))), (.ref ob)]))
      obtain ⟨T127, X127, e127, st127⟩ := getF X126 hx hZ hown (host := "") (Or.inl (hw _ (List.mem_of_getElem? (i := 11) rfl))) Via.refl e126 Fw125 (g := (mkF m 69 #[.val (.ref ob), .val (.long (u0 + u1)), .second] [(.ref ob), (.long (u0 + (500000000 : Int64))), (.ref ob)])) rfl rfl (hb hby d4_69)
      refine own_st st127 ?_
      show own_Go _ _ _ _ (T127.setTop (mkF m 72 #[.val (.ref ob), .val (.long (u0 + u1)), .second] [(.long (4000000000 : Int64)), (.long (u0 + (500000000 : Int64))), (.ref ob)]))
      refine own_st (fun _ k => XS.ladd X127.here hx rfl (hb hby d4_72) rfl k) ?_
      rw [show ((u0 + (500000000 : Int64)) + (4000000000 : Int64)) = (u0 + (4500000000 : Int64)) from by rw [Int64.add_assoc, show (500000000 : Int64) + (4000000000 : Int64) = (4500000000 : Int64) from by decide]]
      show own_Go _ _ _ _ (T127.setTop (mkF m 73 #[.val (.ref ob), .val (.long (u0 + u1)), .second] [(.long (u0 + (4500000000 : Int64))), (.ref ob)]))
      obtain ⟨T128, h128, X128, e128, W128, st128⟩ := putF X127 hx hZ hown (host := "") (Or.inl (hw _ (List.mem_of_getElem? (i := 16) rfl))) Via.refl e127 y125_F_ob_next y125_E_ob (Or.inl (hw _ (List.mem_of_getElem? (i := 17) rfl))) (hw _ (List.mem_of_getElem? (i := 2) rfl)) (ty := .long) (by decide) rfl rfl (g := (mkF m 73 #[.val (.ref ob), .val (.long (u0 + u1)), .second] [(.long (u0 + (4500000000 : Int64))), (.ref ob)])) rfl rfl (hb hby d4_73)
      refine own_st st128 ?_
      have Fw128 : Fld Z h128 ob "com/example/troskel/troskel/service/RetransmissionTimer" "next" "J" (.long (u0 + (4500000000 : Int64))) := y125_F_ob_next.same W128
      have y128_E_ob := y125_E_ob.wr W128
      have y128_F_ob_interval := Fw125.other W128 (Or.inr (slot_ne (Or.inl (hw _ (List.mem_of_getElem? (i := 12) rfl))) (Or.inl (hw _ (List.mem_of_getElem? (i := 17) rfl))) (by decide) (t := .long) (t' := .long) (by decide) (by decide)))
      have y128_F_ob_timeoutAt := y125_F_ob_timeoutAt.other W128 (Or.inr (slot_ne (Or.inr (hw _ (List.mem_of_getElem? (i := 15) rfl))) (Or.inl (hw _ (List.mem_of_getElem? (i := 17) rfl))) (by decide) (t := .long) (t' := .long) (by decide) (by decide)))
      have y128_F_ob_proceeding := y125_F_ob_proceeding.other W128 (Or.inr (slot_ne (Or.inl (hw _ (List.mem_of_getElem? (i := 44) rfl))) (Or.inl (hw _ (List.mem_of_getElem? (i := 17) rfl))) (by decide) (t := .boolean) (t' := .long) (by decide) (by decide)))
      have Z128 : n0 ≤ h128.size := Nat.le_trans Z125 (Nat.le_of_eq W128.size.symm)
      have N128 := Fr.snoc X128 N125 gnob
      have K128 : Keep h0 h128 [ob] := K125.wr W128 (Or.inl (by simp))
      show own_Go _ _ _ _ (T128.setTop (mkF m 76 #[.val (.ref ob), .val (.long (u0 + u1)), .second] []))
      refine own_st (fun _ k => XS.goto X128.here hx rfl (pc0 := 76) (pc' := 21) rfl (hb hby d4_76) (by decide) (by decide) k) ?_
      show own_Go _ _ _ _ (T128.setTop (mkF m 21 #[.val (.ref ob), .val (.long (u0 + u1)), .second] []))
      refine own_st (fun _ k => XS.lloadN X128.here hx rfl (hb hby d4_21) rfl k) ?_
      show own_Go _ _ _ _ (T128.setTop (mkF m 22 #[.val (.ref ob), .val (.long (u0 + u1)), .second] [(.long (u0 + u1))]))
      refine own_st (fun _ k => XS.aloadN X128.here hx rfl (hb hby d4_22) rfl rfl k) ?_
      show own_Go _ _ _ _ (T128.setTop (mkF m 23 #[.val (.ref ob), .val (.long (u0 + u1)), .second] [(.ref ob), (.long (u0 + u1))]))
      obtain ⟨T129, X129, e129, st129⟩ := getF X128 hx hZ hown (host := "") (Or.inl (hw _ (List.mem_of_getElem? (i := 16) rfl))) Via.refl e128 Fw128 (g := (mkF m 23 #[.val (.ref ob), .val (.long (u0 + u1)), .second] [(.ref ob), (.long (u0 + u1))])) rfl rfl (hb hby d4_23)
      refine own_st st129 ?_
      show own_Go _ _ _ _ (T129.setTop (mkF m 26 #[.val (.ref ob), .val (.long (u0 + u1)), .second] [(.long (u0 + (4500000000 : Int64))), (.long (u0 + u1))]))
      refine own_st (fun _ k => XS.lsub X129.here hx rfl (hb hby d4_26) rfl k) ?_
      show own_Go _ _ _ _ (T129.setTop (mkF m 27 #[.val (.ref ob), .val (.long (u0 + u1)), .second] [(.long ((u0 + u1) - (u0 + (4500000000 : Int64))))]))
      refine own_st (fun _ k => XS.lconst X129.here hx rfl (hb hby d4_27) k) ?_
      show own_Go _ _ _ _ (T129.setTop (mkF m 28 #[.val (.ref ob), .val (.long (u0 + u1)), .second] [(.long (0 : Int64)), (.long ((u0 + u1) - (u0 + (4500000000 : Int64))))]))
      refine own_st (fun _ k => XS.lcmp X129.here hx rfl (hb hby d4_28) rfl k) ?_
      show own_Go _ _ _ _ (T129.setTop (mkF m 29 #[.val (.ref ob), .val (.long (u0 + u1)), .second] [(.int (lcmpW ((u0 + u1) - (u0 + (4500000000 : Int64))) (0 : Int64)))]))
      by_cases hc130 : (lcmpW ((u0 + u1) - (u0 + (4500000000 : Int64))) (0 : Int64)) < (0 : Int32)
      · skip
        refine own_st (fun _ k => XS.ifYes X129.here hx rfl (pc0 := 29) (pc' := 79) rfl (hb hby d4_29) rfl ((if0 _ _).trans (tlt hc130).1) (by decide) (by decide) k) ?_
        show own_Go _ _ _ _ (T129.setTop (mkF m 79 #[.val (.ref ob), .val (.long (u0 + u1)), .second] []))
        refine own_st (fun _ k => XS.iconst X129.here hx rfl (hb hby d4_79) k) ?_
        show own_Go _ _ _ _ (T129.setTop (mkF m 80 #[.val (.ref ob), .val (.long (u0 + u1)), .second] [(.int (1 : Int32))]))
        obtain ⟨fs, hr, hrun, hended, hW, hsame⟩ := X129.leave (v := some (.int (1 : Int32))) (fun h => by rw [Bd.returns] at h; cases h)
        refine own_out (retN X129 hx (t := .boolean) Bd.returns (by simp) (hb hby d4_80) hr) ⟨hrun, hended, _, _, rfl, ?_, ⟨_, rfl⟩, hW, hsame.mono (by decide) (by decide)⟩
        show Q4_1 Z ob u0 u1 h0 n0 _ T129.heap _
        have hv : own_nx1 u0 u1 = (u0 + (4500000000 : Int64)) := by
          unfold own_nx1
          rw [if_pos hc120, if_neg hc122, if_pos hc130]
        rw [e129]
        exact ⟨_, rfl, N128, K128, y128_E_ob, by rw [hv]; exact Fw128, y128_F_ob_timeoutAt⟩
      · skip
        refine own_st (fun _ k => XS.ifNo X129.here hx rfl (hb hby d4_29) rfl ((if0 _ _).trans (flt hc130).1) k) ?_
        show own_Go _ _ _ _ (T129.setTop (mkF m 32 #[.val (.ref ob), .val (.long (u0 + u1)), .second] []))
        refine own_st (fun _ k => XS.aloadN X129.here hx rfl (hb hby d4_32) rfl rfl k) ?_
        show own_Go _ _ _ _ (T129.setTop (mkF m 33 #[.val (.ref ob), .val (.long (u0 + u1)), .second] [(.ref ob)]))
        refine own_st (fun _ k => XS.aloadN X129.here hx rfl (hb hby d4_33) rfl rfl k) ?_
        show own_Go _ _ _ _ (T129.setTop (mkF m 34 #[.val (.ref ob), .val (.long (u0 + u1)), .second] [(.ref ob), (.ref ob)]))
        obtain ⟨T131, X131, e131, st131⟩ := getF X129 hx hZ hown (host := "") (Or.inl (hw _ (List.mem_of_getElem? (i := 43) rfl))) Via.refl e129 y128_F_ob_proceeding (g := (mkF m 34 #[.val (.ref ob), .val (.long (u0 + u1)), .second] [(.ref ob), (.ref ob)])) rfl rfl (hb hby d4_34)
        refine own_st st131 ?_
        show own_Go _ _ _ _ (T131.setTop (mkF m 37 #[.val (.ref ob), .val (.long (u0 + u1)), .second] [(.int (1 : Int32)), (.ref ob)]))
        refine own_st (fun _ k => XS.ifNo X131.here hx rfl (hb hby d4_37) rfl ((if0 _ _).trans (feq (by decide : ¬ ((1 : Int32) = (0 : Int32)))).1) k) ?_
        show own_Go _ _ _ _ (T131.setTop (mkF m 40 #[.val (.ref ob), .val (.long (u0 + u1)), .second] [(.ref ob)]))
        refine own_st (fun _ k => X131.ldc2Long hx hown (mvT hZ (hw _ (List.mem_of_getElem? (i := 46) rfl))) (g := (mkF m 40 #[.val (.ref ob), .val (.long (u0 + u1)), .second] [(.ref ob)])) rfl (hb hby d4_40) _ k) ?_
        show own_Go _ _ _ _ (T131.setTop (mkF m 43 #[.val (.ref ob), .val (.long (u0 + u1)), .second] [(.long (4000000000 : Int64)), (.ref ob)]))
        refine own_st (fun _ k => XS.goto X131.here hx rfl (pc0 := 43) (pc' := 60) rfl (hb hby d4_43) (by decide) (by decide) k) ?_
        show own_Go _ _ _ _ (T131.setTop (mkF m 60 #[.val (.ref ob), .val (.long (u0 + u1)), .second] [(.long (4000000000 : Int64)), (.ref ob)]))
        obtain ⟨T132, h132, X132, e132, W132, st132⟩ := putF X131 hx hZ hown (host := "") (Or.inl (hw _ (List.mem_of_getElem? (i := 11) rfl))) Via.refl e131 y128_F_ob_interval y128_E_ob (Or.inl (hw _ (List.mem_of_getElem? (i := 12) rfl))) (hw _ (List.mem_of_getElem? (i := 2) rfl)) (ty := .long) (by decide) rfl rfl (g := (mkF m 60 #[.val (.ref ob), .val (.long (u0 + u1)), .second] [(.long (4000000000 : Int64)), (.ref ob)])) rfl rfl (hb hby d4_60)
        refine own_st st132 ?_
        have Fw132 : Fld Z h132 ob "com/example/troskel/troskel/service/RetransmissionTimer" "interval" "J" (.long (4000000000 : Int64)) := y128_F_ob_interval.same W132
        have y132_E_ob := y128_E_ob.wr W132
        have y132_F_ob_timeoutAt := y128_F_ob_timeoutAt.other W132 (Or.inr (slot_ne (Or.inr (hw _ (List.mem_of_getElem? (i := 15) rfl))) (Or.inl (hw _ (List.mem_of_getElem? (i := 12) rfl))) (by decide) (t := .long) (t' := .long) (by decide) (by decide)))
        have y132_F_ob_next := Fw128.other W132 (Or.inr (slot_ne (Or.inl (hw _ (List.mem_of_getElem? (i := 17) rfl))) (Or.inl (hw _ (List.mem_of_getElem? (i := 12) rfl))) (by decide) (t := .long) (t' := .long) (by decide) (by decide)))
        have y132_F_ob_proceeding := y128_F_ob_proceeding.other W132 (Or.inr (slot_ne (Or.inl (hw _ (List.mem_of_getElem? (i := 44) rfl))) (Or.inl (hw _ (List.mem_of_getElem? (i := 12) rfl))) (by decide) (t := .boolean) (t' := .long) (by decide) (by decide)))
        have Z132 : n0 ≤ h132.size := Nat.le_trans Z128 (Nat.le_of_eq W132.size.symm)
        have N132 := Fr.snoc X132 N128 gnob
        have K132 : Keep h0 h132 [ob] := K128.wr W132 (Or.inl (by simp))
        show own_Go _ _ _ _ (T132.setTop (mkF m 63 #[.val (.ref ob), .val (.long (u0 + u1)), .second] []))
        refine own_st (fun _ k => XS.aloadN X132.here hx rfl (hb hby d4_63) rfl rfl k) ?_
        show own_Go _ _ _ _ (T132.setTop (mkF m 64 #[.val (.ref ob), .val (.long (u0 + u1)), .second] [(.ref ob)]))
        refine own_st (fun _ k => XS.dup X132.here hx rfl (hb hby d4_64) rfl rfl k) ?_
        show own_Go _ _ _ _ (T132.setTop (mkF m 65 #[.val (.ref ob), .val (.long (u0 + u1)), .second] [(.ref ob), (.ref ob)]))
        obtain ⟨T133, X133, e133, st133⟩ := getF X132 hx hZ hown (host := "") (Or.inl (hw _ (List.mem_of_getElem? (i := 16) rfl))) Via.refl e132 y132_F_ob_next (g := (mkF m 65 #[.val (.ref ob), .val (.long (u0 + u1)), .second] [(.ref ob), (.ref ob)])) rfl rfl (hb hby d4_65)
        refine own_st st133 ?_
        show own_Go _ _ _ _ (T133.setTop (mkF m 68 #[.val (.ref ob), .val (.long (u0 + u1)), .second] [(.long (u0 + (4500000000 : Int64))), (.ref ob)]))
        refine own_st (fun _ k => XS.aloadN X133.here hx rfl (hb hby d4_68) rfl rfl k) ?_
        show own_Go _ _ _ _ (T133.setTop (mkF m 69 #[.val (.ref ob), .val (.long (u0 + u1)), .second] [(.ref ob), (.long (u0 + (4500000000 : Int64))), (.ref ob)]))
        obtain ⟨T134, X134, e134, st134⟩ := getF X133 hx hZ hown (host := "") (Or.inl (hw _ (List.mem_of_getElem? (i := 11) rfl))) Via.refl e133 Fw132 (g := (mkF m 69 #[.val (.ref ob), .val (.long (u0 + u1)), .second] [(.ref ob), (.long (u0 + (4500000000 : Int64))), (.ref ob)])) rfl rfl (hb hby d4_69)
        refine own_st st134 ?_
        show own_Go _ _ _ _ (T134.setTop (mkF m 72 #[.val (.ref ob), .val (.long (u0 + u1)), .second] [(.long (4000000000 : Int64)), (.long (u0 + (4500000000 : Int64))), (.ref ob)]))
        refine own_st (fun _ k => XS.ladd X134.here hx rfl (hb hby d4_72) rfl k) ?_
        rw [show ((u0 + (4500000000 : Int64)) + (4000000000 : Int64)) = (u0 + (8500000000 : Int64)) from by rw [Int64.add_assoc, show (4500000000 : Int64) + (4000000000 : Int64) = (8500000000 : Int64) from by decide]]
        show own_Go _ _ _ _ (T134.setTop (mkF m 73 #[.val (.ref ob), .val (.long (u0 + u1)), .second] [(.long (u0 + (8500000000 : Int64))), (.ref ob)]))
        obtain ⟨T135, h135, X135, e135, W135, st135⟩ := putF X134 hx hZ hown (host := "") (Or.inl (hw _ (List.mem_of_getElem? (i := 16) rfl))) Via.refl e134 y132_F_ob_next y132_E_ob (Or.inl (hw _ (List.mem_of_getElem? (i := 17) rfl))) (hw _ (List.mem_of_getElem? (i := 2) rfl)) (ty := .long) (by decide) rfl rfl (g := (mkF m 73 #[.val (.ref ob), .val (.long (u0 + u1)), .second] [(.long (u0 + (8500000000 : Int64))), (.ref ob)])) rfl rfl (hb hby d4_73)
        refine own_st st135 ?_
        have Fw135 : Fld Z h135 ob "com/example/troskel/troskel/service/RetransmissionTimer" "next" "J" (.long (u0 + (8500000000 : Int64))) := y132_F_ob_next.same W135
        have y135_E_ob := y132_E_ob.wr W135
        have y135_F_ob_interval := Fw132.other W135 (Or.inr (slot_ne (Or.inl (hw _ (List.mem_of_getElem? (i := 12) rfl))) (Or.inl (hw _ (List.mem_of_getElem? (i := 17) rfl))) (by decide) (t := .long) (t' := .long) (by decide) (by decide)))
        have y135_F_ob_timeoutAt := y132_F_ob_timeoutAt.other W135 (Or.inr (slot_ne (Or.inr (hw _ (List.mem_of_getElem? (i := 15) rfl))) (Or.inl (hw _ (List.mem_of_getElem? (i := 17) rfl))) (by decide) (t := .long) (t' := .long) (by decide) (by decide)))
        have y135_F_ob_proceeding := y132_F_ob_proceeding.other W135 (Or.inr (slot_ne (Or.inl (hw _ (List.mem_of_getElem? (i := 44) rfl))) (Or.inl (hw _ (List.mem_of_getElem? (i := 17) rfl))) (by decide) (t := .boolean) (t' := .long) (by decide) (by decide)))
        have Z135 : n0 ≤ h135.size := Nat.le_trans Z132 (Nat.le_of_eq W135.size.symm)
        have N135 := Fr.snoc X135 N132 gnob
        have K135 : Keep h0 h135 [ob] := K132.wr W135 (Or.inl (by simp))
        show own_Go _ _ _ _ (T135.setTop (mkF m 76 #[.val (.ref ob), .val (.long (u0 + u1)), .second] []))
        refine own_st (fun _ k => XS.goto X135.here hx rfl (pc0 := 76) (pc' := 21) rfl (hb hby d4_76) (by decide) (by decide) k) ?_
        show own_Go _ _ _ _ (T135.setTop (mkF m 21 #[.val (.ref ob), .val (.long (u0 + u1)), .second] []))
        refine own_st (fun _ k => XS.lloadN X135.here hx rfl (hb hby d4_21) rfl k) ?_
        show own_Go _ _ _ _ (T135.setTop (mkF m 22 #[.val (.ref ob), .val (.long (u0 + u1)), .second] [(.long (u0 + u1))]))
        refine own_st (fun _ k => XS.aloadN X135.here hx rfl (hb hby d4_22) rfl rfl k) ?_
        show own_Go _ _ _ _ (T135.setTop (mkF m 23 #[.val (.ref ob), .val (.long (u0 + u1)), .second] [(.ref ob), (.long (u0 + u1))]))
        obtain ⟨T136, X136, e136, st136⟩ := getF X135 hx hZ hown (host := "") (Or.inl (hw _ (List.mem_of_getElem? (i := 16) rfl))) Via.refl e135 Fw135 (g := (mkF m 23 #[.val (.ref ob), .val (.long (u0 + u1)), .second] [(.ref ob), (.long (u0 + u1))])) rfl rfl (hb hby d4_23)
        refine own_st st136 ?_
        show own_Go _ _ _ _ (T136.setTop (mkF m 26 #[.val (.ref ob), .val (.long (u0 + u1)), .second] [(.long (u0 + (8500000000 : Int64))), (.long (u0 + u1))]))
        refine own_st (fun _ k => XS.lsub X136.here hx rfl (hb hby d4_26) rfl k) ?_
        show own_Go _ _ _ _ (T136.setTop (mkF m 27 #[.val (.ref ob), .val (.long (u0 + u1)), .second] [(.long ((u0 + u1) - (u0 + (8500000000 : Int64))))]))
        refine own_st (fun _ k => XS.lconst X136.here hx rfl (hb hby d4_27) k) ?_
        show own_Go _ _ _ _ (T136.setTop (mkF m 28 #[.val (.ref ob), .val (.long (u0 + u1)), .second] [(.long (0 : Int64)), (.long ((u0 + u1) - (u0 + (8500000000 : Int64))))]))
        refine own_st (fun _ k => XS.lcmp X136.here hx rfl (hb hby d4_28) rfl k) ?_
        show own_Go _ _ _ _ (T136.setTop (mkF m 29 #[.val (.ref ob), .val (.long (u0 + u1)), .second] [(.int (lcmpW ((u0 + u1) - (u0 + (8500000000 : Int64))) (0 : Int64)))]))
        by_cases hc137 : (lcmpW ((u0 + u1) - (u0 + (8500000000 : Int64))) (0 : Int64)) < (0 : Int32)
        · skip
          refine own_st (fun _ k => XS.ifYes X136.here hx rfl (pc0 := 29) (pc' := 79) rfl (hb hby d4_29) rfl ((if0 _ _).trans (tlt hc137).1) (by decide) (by decide) k) ?_
          show own_Go _ _ _ _ (T136.setTop (mkF m 79 #[.val (.ref ob), .val (.long (u0 + u1)), .second] []))
          refine own_st (fun _ k => XS.iconst X136.here hx rfl (hb hby d4_79) k) ?_
          show own_Go _ _ _ _ (T136.setTop (mkF m 80 #[.val (.ref ob), .val (.long (u0 + u1)), .second] [(.int (1 : Int32))]))
          obtain ⟨fs, hr, hrun, hended, hW, hsame⟩ := X136.leave (v := some (.int (1 : Int32))) (fun h => by rw [Bd.returns] at h; cases h)
          refine own_out (retN X136 hx (t := .boolean) Bd.returns (by simp) (hb hby d4_80) hr) ⟨hrun, hended, _, _, rfl, ?_, ⟨_, rfl⟩, hW, hsame.mono (by decide) (by decide)⟩
          show Q4_1 Z ob u0 u1 h0 n0 _ T136.heap _
          have hv : own_nx1 u0 u1 = (u0 + (8500000000 : Int64)) := by
            unfold own_nx1
            rw [if_pos hc120, if_neg hc122, if_neg hc130, if_pos hc137]
          rw [e136]
          exact ⟨_, rfl, N135, K135, y135_E_ob, by rw [hv]; exact Fw135, y135_F_ob_timeoutAt⟩
        · skip
          refine own_st (fun _ k => XS.ifNo X136.here hx rfl (hb hby d4_29) rfl ((if0 _ _).trans (flt hc137).1) k) ?_
          show own_Go _ _ _ _ (T136.setTop (mkF m 32 #[.val (.ref ob), .val (.long (u0 + u1)), .second] []))
          refine own_st (fun _ k => XS.aloadN X136.here hx rfl (hb hby d4_32) rfl rfl k) ?_
          show own_Go _ _ _ _ (T136.setTop (mkF m 33 #[.val (.ref ob), .val (.long (u0 + u1)), .second] [(.ref ob)]))
          refine own_st (fun _ k => XS.aloadN X136.here hx rfl (hb hby d4_33) rfl rfl k) ?_
          show own_Go _ _ _ _ (T136.setTop (mkF m 34 #[.val (.ref ob), .val (.long (u0 + u1)), .second] [(.ref ob), (.ref ob)]))
          obtain ⟨T138, X138, e138, st138⟩ := getF X136 hx hZ hown (host := "") (Or.inl (hw _ (List.mem_of_getElem? (i := 43) rfl))) Via.refl e136 y135_F_ob_proceeding (g := (mkF m 34 #[.val (.ref ob), .val (.long (u0 + u1)), .second] [(.ref ob), (.ref ob)])) rfl rfl (hb hby d4_34)
          refine own_st st138 ?_
          show own_Go _ _ _ _ (T138.setTop (mkF m 37 #[.val (.ref ob), .val (.long (u0 + u1)), .second] [(.int (1 : Int32)), (.ref ob)]))
          refine own_st (fun _ k => XS.ifNo X138.here hx rfl (hb hby d4_37) rfl ((if0 _ _).trans (feq (by decide : ¬ ((1 : Int32) = (0 : Int32)))).1) k) ?_
          show own_Go _ _ _ _ (T138.setTop (mkF m 40 #[.val (.ref ob), .val (.long (u0 + u1)), .second] [(.ref ob)]))
          refine own_st (fun _ k => X138.ldc2Long hx hown (mvT hZ (hw _ (List.mem_of_getElem? (i := 46) rfl))) (g := (mkF m 40 #[.val (.ref ob), .val (.long (u0 + u1)), .second] [(.ref ob)])) rfl (hb hby d4_40) _ k) ?_
          show own_Go _ _ _ _ (T138.setTop (mkF m 43 #[.val (.ref ob), .val (.long (u0 + u1)), .second] [(.long (4000000000 : Int64)), (.ref ob)]))
          refine own_st (fun _ k => XS.goto X138.here hx rfl (pc0 := 43) (pc' := 60) rfl (hb hby d4_43) (by decide) (by decide) k) ?_
          show own_Go _ _ _ _ (T138.setTop (mkF m 60 #[.val (.ref ob), .val (.long (u0 + u1)), .second] [(.long (4000000000 : Int64)), (.ref ob)]))
          obtain ⟨T139, h139, X139, e139, W139, st139⟩ := putF X138 hx hZ hown (host := "") (Or.inl (hw _ (List.mem_of_getElem? (i := 11) rfl))) Via.refl e138 y135_F_ob_interval y135_E_ob (Or.inl (hw _ (List.mem_of_getElem? (i := 12) rfl))) (hw _ (List.mem_of_getElem? (i := 2) rfl)) (ty := .long) (by decide) rfl rfl (g := (mkF m 60 #[.val (.ref ob), .val (.long (u0 + u1)), .second] [(.long (4000000000 : Int64)), (.ref ob)])) rfl rfl (hb hby d4_60)
          refine own_st st139 ?_
          have Fw139 : Fld Z h139 ob "com/example/troskel/troskel/service/RetransmissionTimer" "interval" "J" (.long (4000000000 : Int64)) := y135_F_ob_interval.same W139
          have y139_E_ob := y135_E_ob.wr W139
          have y139_F_ob_timeoutAt := y135_F_ob_timeoutAt.other W139 (Or.inr (slot_ne (Or.inr (hw _ (List.mem_of_getElem? (i := 15) rfl))) (Or.inl (hw _ (List.mem_of_getElem? (i := 12) rfl))) (by decide) (t := .long) (t' := .long) (by decide) (by decide)))
          have y139_F_ob_next := Fw135.other W139 (Or.inr (slot_ne (Or.inl (hw _ (List.mem_of_getElem? (i := 17) rfl))) (Or.inl (hw _ (List.mem_of_getElem? (i := 12) rfl))) (by decide) (t := .long) (t' := .long) (by decide) (by decide)))
          have y139_F_ob_proceeding := y135_F_ob_proceeding.other W139 (Or.inr (slot_ne (Or.inl (hw _ (List.mem_of_getElem? (i := 44) rfl))) (Or.inl (hw _ (List.mem_of_getElem? (i := 12) rfl))) (by decide) (t := .boolean) (t' := .long) (by decide) (by decide)))
          have Z139 : n0 ≤ h139.size := Nat.le_trans Z135 (Nat.le_of_eq W139.size.symm)
          have N139 := Fr.snoc X139 N135 gnob
          have K139 : Keep h0 h139 [ob] := K135.wr W139 (Or.inl (by simp))
          show own_Go _ _ _ _ (T139.setTop (mkF m 63 #[.val (.ref ob), .val (.long (u0 + u1)), .second] []))
          refine own_st (fun _ k => XS.aloadN X139.here hx rfl (hb hby d4_63) rfl rfl k) ?_
          show own_Go _ _ _ _ (T139.setTop (mkF m 64 #[.val (.ref ob), .val (.long (u0 + u1)), .second] [(.ref ob)]))
          refine own_st (fun _ k => XS.dup X139.here hx rfl (hb hby d4_64) rfl rfl k) ?_
          show own_Go _ _ _ _ (T139.setTop (mkF m 65 #[.val (.ref ob), .val (.long (u0 + u1)), .second] [(.ref ob), (.ref ob)]))
          obtain ⟨T140, X140, e140, st140⟩ := getF X139 hx hZ hown (host := "") (Or.inl (hw _ (List.mem_of_getElem? (i := 16) rfl))) Via.refl e139 y139_F_ob_next (g := (mkF m 65 #[.val (.ref ob), .val (.long (u0 + u1)), .second] [(.ref ob), (.ref ob)])) rfl rfl (hb hby d4_65)
          refine own_st st140 ?_
          show own_Go _ _ _ _ (T140.setTop (mkF m 68 #[.val (.ref ob), .val (.long (u0 + u1)), .second] [(.long (u0 + (8500000000 : Int64))), (.ref ob)]))
          refine own_st (fun _ k => XS.aloadN X140.here hx rfl (hb hby d4_68) rfl rfl k) ?_
          show own_Go _ _ _ _ (T140.setTop (mkF m 69 #[.val (.ref ob), .val (.long (u0 + u1)), .second] [(.ref ob), (.long (u0 + (8500000000 : Int64))), (.ref ob)]))
          obtain ⟨T141, X141, e141, st141⟩ := getF X140 hx hZ hown (host := "") (Or.inl (hw _ (List.mem_of_getElem? (i := 11) rfl))) Via.refl e140 Fw139 (g := (mkF m 69 #[.val (.ref ob), .val (.long (u0 + u1)), .second] [(.ref ob), (.long (u0 + (8500000000 : Int64))), (.ref ob)])) rfl rfl (hb hby d4_69)
          refine own_st st141 ?_
          show own_Go _ _ _ _ (T141.setTop (mkF m 72 #[.val (.ref ob), .val (.long (u0 + u1)), .second] [(.long (4000000000 : Int64)), (.long (u0 + (8500000000 : Int64))), (.ref ob)]))
          refine own_st (fun _ k => XS.ladd X141.here hx rfl (hb hby d4_72) rfl k) ?_
          rw [show ((u0 + (8500000000 : Int64)) + (4000000000 : Int64)) = (u0 + (12500000000 : Int64)) from by rw [Int64.add_assoc, show (8500000000 : Int64) + (4000000000 : Int64) = (12500000000 : Int64) from by decide]]
          show own_Go _ _ _ _ (T141.setTop (mkF m 73 #[.val (.ref ob), .val (.long (u0 + u1)), .second] [(.long (u0 + (12500000000 : Int64))), (.ref ob)]))
          obtain ⟨T142, h142, X142, e142, W142, st142⟩ := putF X141 hx hZ hown (host := "") (Or.inl (hw _ (List.mem_of_getElem? (i := 16) rfl))) Via.refl e141 y139_F_ob_next y139_E_ob (Or.inl (hw _ (List.mem_of_getElem? (i := 17) rfl))) (hw _ (List.mem_of_getElem? (i := 2) rfl)) (ty := .long) (by decide) rfl rfl (g := (mkF m 73 #[.val (.ref ob), .val (.long (u0 + u1)), .second] [(.long (u0 + (12500000000 : Int64))), (.ref ob)])) rfl rfl (hb hby d4_73)
          refine own_st st142 ?_
          have Fw142 : Fld Z h142 ob "com/example/troskel/troskel/service/RetransmissionTimer" "next" "J" (.long (u0 + (12500000000 : Int64))) := y139_F_ob_next.same W142
          have y142_E_ob := y139_E_ob.wr W142
          have y142_F_ob_interval := Fw139.other W142 (Or.inr (slot_ne (Or.inl (hw _ (List.mem_of_getElem? (i := 12) rfl))) (Or.inl (hw _ (List.mem_of_getElem? (i := 17) rfl))) (by decide) (t := .long) (t' := .long) (by decide) (by decide)))
          have y142_F_ob_timeoutAt := y139_F_ob_timeoutAt.other W142 (Or.inr (slot_ne (Or.inr (hw _ (List.mem_of_getElem? (i := 15) rfl))) (Or.inl (hw _ (List.mem_of_getElem? (i := 17) rfl))) (by decide) (t := .long) (t' := .long) (by decide) (by decide)))
          have y142_F_ob_proceeding := y139_F_ob_proceeding.other W142 (Or.inr (slot_ne (Or.inl (hw _ (List.mem_of_getElem? (i := 44) rfl))) (Or.inl (hw _ (List.mem_of_getElem? (i := 17) rfl))) (by decide) (t := .boolean) (t' := .long) (by decide) (by decide)))
          have Z142 : n0 ≤ h142.size := Nat.le_trans Z139 (Nat.le_of_eq W142.size.symm)
          have N142 := Fr.snoc X142 N139 gnob
          have K142 : Keep h0 h142 [ob] := K139.wr W142 (Or.inl (by simp))
          show own_Go _ _ _ _ (T142.setTop (mkF m 76 #[.val (.ref ob), .val (.long (u0 + u1)), .second] []))
          refine own_st (fun _ k => XS.goto X142.here hx rfl (pc0 := 76) (pc' := 21) rfl (hb hby d4_76) (by decide) (by decide) k) ?_
          show own_Go _ _ _ _ (T142.setTop (mkF m 21 #[.val (.ref ob), .val (.long (u0 + u1)), .second] []))
          refine own_st (fun _ k => XS.lloadN X142.here hx rfl (hb hby d4_21) rfl k) ?_
          show own_Go _ _ _ _ (T142.setTop (mkF m 22 #[.val (.ref ob), .val (.long (u0 + u1)), .second] [(.long (u0 + u1))]))
          refine own_st (fun _ k => XS.aloadN X142.here hx rfl (hb hby d4_22) rfl rfl k) ?_
          show own_Go _ _ _ _ (T142.setTop (mkF m 23 #[.val (.ref ob), .val (.long (u0 + u1)), .second] [(.ref ob), (.long (u0 + u1))]))
          obtain ⟨T143, X143, e143, st143⟩ := getF X142 hx hZ hown (host := "") (Or.inl (hw _ (List.mem_of_getElem? (i := 16) rfl))) Via.refl e142 Fw142 (g := (mkF m 23 #[.val (.ref ob), .val (.long (u0 + u1)), .second] [(.ref ob), (.long (u0 + u1))])) rfl rfl (hb hby d4_23)
          refine own_st st143 ?_
          show own_Go _ _ _ _ (T143.setTop (mkF m 26 #[.val (.ref ob), .val (.long (u0 + u1)), .second] [(.long (u0 + (12500000000 : Int64))), (.long (u0 + u1))]))
          refine own_st (fun _ k => XS.lsub X143.here hx rfl (hb hby d4_26) rfl k) ?_
          show own_Go _ _ _ _ (T143.setTop (mkF m 27 #[.val (.ref ob), .val (.long (u0 + u1)), .second] [(.long ((u0 + u1) - (u0 + (12500000000 : Int64))))]))
          refine own_st (fun _ k => XS.lconst X143.here hx rfl (hb hby d4_27) k) ?_
          show own_Go _ _ _ _ (T143.setTop (mkF m 28 #[.val (.ref ob), .val (.long (u0 + u1)), .second] [(.long (0 : Int64)), (.long ((u0 + u1) - (u0 + (12500000000 : Int64))))]))
          refine own_st (fun _ k => XS.lcmp X143.here hx rfl (hb hby d4_28) rfl k) ?_
          show own_Go _ _ _ _ (T143.setTop (mkF m 29 #[.val (.ref ob), .val (.long (u0 + u1)), .second] [(.int (lcmpW ((u0 + u1) - (u0 + (12500000000 : Int64))) (0 : Int64)))]))
          by_cases hc144 : (lcmpW ((u0 + u1) - (u0 + (12500000000 : Int64))) (0 : Int64)) < (0 : Int32)
          · skip
            refine own_st (fun _ k => XS.ifYes X143.here hx rfl (pc0 := 29) (pc' := 79) rfl (hb hby d4_29) rfl ((if0 _ _).trans (tlt hc144).1) (by decide) (by decide) k) ?_
            show own_Go _ _ _ _ (T143.setTop (mkF m 79 #[.val (.ref ob), .val (.long (u0 + u1)), .second] []))
            refine own_st (fun _ k => XS.iconst X143.here hx rfl (hb hby d4_79) k) ?_
            show own_Go _ _ _ _ (T143.setTop (mkF m 80 #[.val (.ref ob), .val (.long (u0 + u1)), .second] [(.int (1 : Int32))]))
            obtain ⟨fs, hr, hrun, hended, hW, hsame⟩ := X143.leave (v := some (.int (1 : Int32))) (fun h => by rw [Bd.returns] at h; cases h)
            refine own_out (retN X143 hx (t := .boolean) Bd.returns (by simp) (hb hby d4_80) hr) ⟨hrun, hended, _, _, rfl, ?_, ⟨_, rfl⟩, hW, hsame.mono (by decide) (by decide)⟩
            show Q4_1 Z ob u0 u1 h0 n0 _ T143.heap _
            have hv : own_nx1 u0 u1 = (u0 + (12500000000 : Int64)) := by
              unfold own_nx1
              rw [if_pos hc120, if_neg hc122, if_neg hc130, if_neg hc137, if_pos hc144]
            rw [e143]
            exact ⟨_, rfl, N142, K142, y142_E_ob, by rw [hv]; exact Fw142, y142_F_ob_timeoutAt⟩
          · skip
            refine own_st (fun _ k => XS.ifNo X143.here hx rfl (hb hby d4_29) rfl ((if0 _ _).trans (flt hc144).1) k) ?_
            show own_Go _ _ _ _ (T143.setTop (mkF m 32 #[.val (.ref ob), .val (.long (u0 + u1)), .second] []))
            refine own_st (fun _ k => XS.aloadN X143.here hx rfl (hb hby d4_32) rfl rfl k) ?_
            show own_Go _ _ _ _ (T143.setTop (mkF m 33 #[.val (.ref ob), .val (.long (u0 + u1)), .second] [(.ref ob)]))
            refine own_st (fun _ k => XS.aloadN X143.here hx rfl (hb hby d4_33) rfl rfl k) ?_
            show own_Go _ _ _ _ (T143.setTop (mkF m 34 #[.val (.ref ob), .val (.long (u0 + u1)), .second] [(.ref ob), (.ref ob)]))
            obtain ⟨T145, X145, e145, st145⟩ := getF X143 hx hZ hown (host := "") (Or.inl (hw _ (List.mem_of_getElem? (i := 43) rfl))) Via.refl e143 y142_F_ob_proceeding (g := (mkF m 34 #[.val (.ref ob), .val (.long (u0 + u1)), .second] [(.ref ob), (.ref ob)])) rfl rfl (hb hby d4_34)
            refine own_st st145 ?_
            show own_Go _ _ _ _ (T145.setTop (mkF m 37 #[.val (.ref ob), .val (.long (u0 + u1)), .second] [(.int (1 : Int32)), (.ref ob)]))
            refine own_st (fun _ k => XS.ifNo X145.here hx rfl (hb hby d4_37) rfl ((if0 _ _).trans (feq (by decide : ¬ ((1 : Int32) = (0 : Int32)))).1) k) ?_
            show own_Go _ _ _ _ (T145.setTop (mkF m 40 #[.val (.ref ob), .val (.long (u0 + u1)), .second] [(.ref ob)]))
            refine own_st (fun _ k => X145.ldc2Long hx hown (mvT hZ (hw _ (List.mem_of_getElem? (i := 46) rfl))) (g := (mkF m 40 #[.val (.ref ob), .val (.long (u0 + u1)), .second] [(.ref ob)])) rfl (hb hby d4_40) _ k) ?_
            show own_Go _ _ _ _ (T145.setTop (mkF m 43 #[.val (.ref ob), .val (.long (u0 + u1)), .second] [(.long (4000000000 : Int64)), (.ref ob)]))
            refine own_st (fun _ k => XS.goto X145.here hx rfl (pc0 := 43) (pc' := 60) rfl (hb hby d4_43) (by decide) (by decide) k) ?_
            show own_Go _ _ _ _ (T145.setTop (mkF m 60 #[.val (.ref ob), .val (.long (u0 + u1)), .second] [(.long (4000000000 : Int64)), (.ref ob)]))
            obtain ⟨T146, h146, X146, e146, W146, st146⟩ := putF X145 hx hZ hown (host := "") (Or.inl (hw _ (List.mem_of_getElem? (i := 11) rfl))) Via.refl e145 y142_F_ob_interval y142_E_ob (Or.inl (hw _ (List.mem_of_getElem? (i := 12) rfl))) (hw _ (List.mem_of_getElem? (i := 2) rfl)) (ty := .long) (by decide) rfl rfl (g := (mkF m 60 #[.val (.ref ob), .val (.long (u0 + u1)), .second] [(.long (4000000000 : Int64)), (.ref ob)])) rfl rfl (hb hby d4_60)
            refine own_st st146 ?_
            have Fw146 : Fld Z h146 ob "com/example/troskel/troskel/service/RetransmissionTimer" "interval" "J" (.long (4000000000 : Int64)) := y142_F_ob_interval.same W146
            have y146_E_ob := y142_E_ob.wr W146
            have y146_F_ob_timeoutAt := y142_F_ob_timeoutAt.other W146 (Or.inr (slot_ne (Or.inr (hw _ (List.mem_of_getElem? (i := 15) rfl))) (Or.inl (hw _ (List.mem_of_getElem? (i := 12) rfl))) (by decide) (t := .long) (t' := .long) (by decide) (by decide)))
            have y146_F_ob_next := Fw142.other W146 (Or.inr (slot_ne (Or.inl (hw _ (List.mem_of_getElem? (i := 17) rfl))) (Or.inl (hw _ (List.mem_of_getElem? (i := 12) rfl))) (by decide) (t := .long) (t' := .long) (by decide) (by decide)))
            have y146_F_ob_proceeding := y142_F_ob_proceeding.other W146 (Or.inr (slot_ne (Or.inl (hw _ (List.mem_of_getElem? (i := 44) rfl))) (Or.inl (hw _ (List.mem_of_getElem? (i := 12) rfl))) (by decide) (t := .boolean) (t' := .long) (by decide) (by decide)))
            have Z146 : n0 ≤ h146.size := Nat.le_trans Z142 (Nat.le_of_eq W146.size.symm)
            have N146 := Fr.snoc X146 N142 gnob
            have K146 : Keep h0 h146 [ob] := K142.wr W146 (Or.inl (by simp))
            show own_Go _ _ _ _ (T146.setTop (mkF m 63 #[.val (.ref ob), .val (.long (u0 + u1)), .second] []))
            refine own_st (fun _ k => XS.aloadN X146.here hx rfl (hb hby d4_63) rfl rfl k) ?_
            show own_Go _ _ _ _ (T146.setTop (mkF m 64 #[.val (.ref ob), .val (.long (u0 + u1)), .second] [(.ref ob)]))
            refine own_st (fun _ k => XS.dup X146.here hx rfl (hb hby d4_64) rfl rfl k) ?_
            show own_Go _ _ _ _ (T146.setTop (mkF m 65 #[.val (.ref ob), .val (.long (u0 + u1)), .second] [(.ref ob), (.ref ob)]))
            obtain ⟨T147, X147, e147, st147⟩ := getF X146 hx hZ hown (host := "") (Or.inl (hw _ (List.mem_of_getElem? (i := 16) rfl))) Via.refl e146 y146_F_ob_next (g := (mkF m 65 #[.val (.ref ob), .val (.long (u0 + u1)), .second] [(.ref ob), (.ref ob)])) rfl rfl (hb hby d4_65)
            refine own_st st147 ?_
            show own_Go _ _ _ _ (T147.setTop (mkF m 68 #[.val (.ref ob), .val (.long (u0 + u1)), .second] [(.long (u0 + (12500000000 : Int64))), (.ref ob)]))
            refine own_st (fun _ k => XS.aloadN X147.here hx rfl (hb hby d4_68) rfl rfl k) ?_
            show own_Go _ _ _ _ (T147.setTop (mkF m 69 #[.val (.ref ob), .val (.long (u0 + u1)), .second] [(.ref ob), (.long (u0 + (12500000000 : Int64))), (.ref ob)]))
            obtain ⟨T148, X148, e148, st148⟩ := getF X147 hx hZ hown (host := "") (Or.inl (hw _ (List.mem_of_getElem? (i := 11) rfl))) Via.refl e147 Fw146 (g := (mkF m 69 #[.val (.ref ob), .val (.long (u0 + u1)), .second] [(.ref ob), (.long (u0 + (12500000000 : Int64))), (.ref ob)])) rfl rfl (hb hby d4_69)
            refine own_st st148 ?_
            show own_Go _ _ _ _ (T148.setTop (mkF m 72 #[.val (.ref ob), .val (.long (u0 + u1)), .second] [(.long (4000000000 : Int64)), (.long (u0 + (12500000000 : Int64))), (.ref ob)]))
            refine own_st (fun _ k => XS.ladd X148.here hx rfl (hb hby d4_72) rfl k) ?_
            rw [show ((u0 + (12500000000 : Int64)) + (4000000000 : Int64)) = (u0 + (16500000000 : Int64)) from by rw [Int64.add_assoc, show (12500000000 : Int64) + (4000000000 : Int64) = (16500000000 : Int64) from by decide]]
            show own_Go _ _ _ _ (T148.setTop (mkF m 73 #[.val (.ref ob), .val (.long (u0 + u1)), .second] [(.long (u0 + (16500000000 : Int64))), (.ref ob)]))
            obtain ⟨T149, h149, X149, e149, W149, st149⟩ := putF X148 hx hZ hown (host := "") (Or.inl (hw _ (List.mem_of_getElem? (i := 16) rfl))) Via.refl e148 y146_F_ob_next y146_E_ob (Or.inl (hw _ (List.mem_of_getElem? (i := 17) rfl))) (hw _ (List.mem_of_getElem? (i := 2) rfl)) (ty := .long) (by decide) rfl rfl (g := (mkF m 73 #[.val (.ref ob), .val (.long (u0 + u1)), .second] [(.long (u0 + (16500000000 : Int64))), (.ref ob)])) rfl rfl (hb hby d4_73)
            refine own_st st149 ?_
            have Fw149 : Fld Z h149 ob "com/example/troskel/troskel/service/RetransmissionTimer" "next" "J" (.long (u0 + (16500000000 : Int64))) := y146_F_ob_next.same W149
            have y149_E_ob := y146_E_ob.wr W149
            have y149_F_ob_interval := Fw146.other W149 (Or.inr (slot_ne (Or.inl (hw _ (List.mem_of_getElem? (i := 12) rfl))) (Or.inl (hw _ (List.mem_of_getElem? (i := 17) rfl))) (by decide) (t := .long) (t' := .long) (by decide) (by decide)))
            have y149_F_ob_timeoutAt := y146_F_ob_timeoutAt.other W149 (Or.inr (slot_ne (Or.inr (hw _ (List.mem_of_getElem? (i := 15) rfl))) (Or.inl (hw _ (List.mem_of_getElem? (i := 17) rfl))) (by decide) (t := .long) (t' := .long) (by decide) (by decide)))
            have y149_F_ob_proceeding := y146_F_ob_proceeding.other W149 (Or.inr (slot_ne (Or.inl (hw _ (List.mem_of_getElem? (i := 44) rfl))) (Or.inl (hw _ (List.mem_of_getElem? (i := 17) rfl))) (by decide) (t := .boolean) (t' := .long) (by decide) (by decide)))
            have Z149 : n0 ≤ h149.size := Nat.le_trans Z146 (Nat.le_of_eq W149.size.symm)
            have N149 := Fr.snoc X149 N146 gnob
            have K149 : Keep h0 h149 [ob] := K146.wr W149 (Or.inl (by simp))
            show own_Go _ _ _ _ (T149.setTop (mkF m 76 #[.val (.ref ob), .val (.long (u0 + u1)), .second] []))
            refine own_st (fun _ k => XS.goto X149.here hx rfl (pc0 := 76) (pc' := 21) rfl (hb hby d4_76) (by decide) (by decide) k) ?_
            show own_Go _ _ _ _ (T149.setTop (mkF m 21 #[.val (.ref ob), .val (.long (u0 + u1)), .second] []))
            refine own_st (fun _ k => XS.lloadN X149.here hx rfl (hb hby d4_21) rfl k) ?_
            show own_Go _ _ _ _ (T149.setTop (mkF m 22 #[.val (.ref ob), .val (.long (u0 + u1)), .second] [(.long (u0 + u1))]))
            refine own_st (fun _ k => XS.aloadN X149.here hx rfl (hb hby d4_22) rfl rfl k) ?_
            show own_Go _ _ _ _ (T149.setTop (mkF m 23 #[.val (.ref ob), .val (.long (u0 + u1)), .second] [(.ref ob), (.long (u0 + u1))]))
            obtain ⟨T150, X150, e150, st150⟩ := getF X149 hx hZ hown (host := "") (Or.inl (hw _ (List.mem_of_getElem? (i := 16) rfl))) Via.refl e149 Fw149 (g := (mkF m 23 #[.val (.ref ob), .val (.long (u0 + u1)), .second] [(.ref ob), (.long (u0 + u1))])) rfl rfl (hb hby d4_23)
            refine own_st st150 ?_
            show own_Go _ _ _ _ (T150.setTop (mkF m 26 #[.val (.ref ob), .val (.long (u0 + u1)), .second] [(.long (u0 + (16500000000 : Int64))), (.long (u0 + u1))]))
            refine own_st (fun _ k => XS.lsub X150.here hx rfl (hb hby d4_26) rfl k) ?_
            show own_Go _ _ _ _ (T150.setTop (mkF m 27 #[.val (.ref ob), .val (.long (u0 + u1)), .second] [(.long ((u0 + u1) - (u0 + (16500000000 : Int64))))]))
            refine own_st (fun _ k => XS.lconst X150.here hx rfl (hb hby d4_27) k) ?_
            show own_Go _ _ _ _ (T150.setTop (mkF m 28 #[.val (.ref ob), .val (.long (u0 + u1)), .second] [(.long (0 : Int64)), (.long ((u0 + u1) - (u0 + (16500000000 : Int64))))]))
            refine own_st (fun _ k => XS.lcmp X150.here hx rfl (hb hby d4_28) rfl k) ?_
            show own_Go _ _ _ _ (T150.setTop (mkF m 29 #[.val (.ref ob), .val (.long (u0 + u1)), .second] [(.int (lcmpW ((u0 + u1) - (u0 + (16500000000 : Int64))) (0 : Int64)))]))
            by_cases hc151 : (lcmpW ((u0 + u1) - (u0 + (16500000000 : Int64))) (0 : Int64)) < (0 : Int32)
            · skip
              refine own_st (fun _ k => XS.ifYes X150.here hx rfl (pc0 := 29) (pc' := 79) rfl (hb hby d4_29) rfl ((if0 _ _).trans (tlt hc151).1) (by decide) (by decide) k) ?_
              show own_Go _ _ _ _ (T150.setTop (mkF m 79 #[.val (.ref ob), .val (.long (u0 + u1)), .second] []))
              refine own_st (fun _ k => XS.iconst X150.here hx rfl (hb hby d4_79) k) ?_
              show own_Go _ _ _ _ (T150.setTop (mkF m 80 #[.val (.ref ob), .val (.long (u0 + u1)), .second] [(.int (1 : Int32))]))
              obtain ⟨fs, hr, hrun, hended, hW, hsame⟩ := X150.leave (v := some (.int (1 : Int32))) (fun h => by rw [Bd.returns] at h; cases h)
              refine own_out (retN X150 hx (t := .boolean) Bd.returns (by simp) (hb hby d4_80) hr) ⟨hrun, hended, _, _, rfl, ?_, ⟨_, rfl⟩, hW, hsame.mono (by decide) (by decide)⟩
              show Q4_1 Z ob u0 u1 h0 n0 _ T150.heap _
              have hv : own_nx1 u0 u1 = (u0 + (16500000000 : Int64)) := by
                unfold own_nx1
                rw [if_pos hc120, if_neg hc122, if_neg hc130, if_neg hc137, if_neg hc144, if_pos hc151]
              rw [e150]
              exact ⟨_, rfl, N149, K149, y149_E_ob, by rw [hv]; exact Fw149, y149_F_ob_timeoutAt⟩
            · skip
              refine own_st (fun _ k => XS.ifNo X150.here hx rfl (hb hby d4_29) rfl ((if0 _ _).trans (flt hc151).1) k) ?_
              show own_Go _ _ _ _ (T150.setTop (mkF m 32 #[.val (.ref ob), .val (.long (u0 + u1)), .second] []))
              refine own_st (fun _ k => XS.aloadN X150.here hx rfl (hb hby d4_32) rfl rfl k) ?_
              show own_Go _ _ _ _ (T150.setTop (mkF m 33 #[.val (.ref ob), .val (.long (u0 + u1)), .second] [(.ref ob)]))
              refine own_st (fun _ k => XS.aloadN X150.here hx rfl (hb hby d4_33) rfl rfl k) ?_
              show own_Go _ _ _ _ (T150.setTop (mkF m 34 #[.val (.ref ob), .val (.long (u0 + u1)), .second] [(.ref ob), (.ref ob)]))
              obtain ⟨T152, X152, e152, st152⟩ := getF X150 hx hZ hown (host := "") (Or.inl (hw _ (List.mem_of_getElem? (i := 43) rfl))) Via.refl e150 y149_F_ob_proceeding (g := (mkF m 34 #[.val (.ref ob), .val (.long (u0 + u1)), .second] [(.ref ob), (.ref ob)])) rfl rfl (hb hby d4_34)
              refine own_st st152 ?_
              show own_Go _ _ _ _ (T152.setTop (mkF m 37 #[.val (.ref ob), .val (.long (u0 + u1)), .second] [(.int (1 : Int32)), (.ref ob)]))
              refine own_st (fun _ k => XS.ifNo X152.here hx rfl (hb hby d4_37) rfl ((if0 _ _).trans (feq (by decide : ¬ ((1 : Int32) = (0 : Int32)))).1) k) ?_
              show own_Go _ _ _ _ (T152.setTop (mkF m 40 #[.val (.ref ob), .val (.long (u0 + u1)), .second] [(.ref ob)]))
              refine own_st (fun _ k => X152.ldc2Long hx hown (mvT hZ (hw _ (List.mem_of_getElem? (i := 46) rfl))) (g := (mkF m 40 #[.val (.ref ob), .val (.long (u0 + u1)), .second] [(.ref ob)])) rfl (hb hby d4_40) _ k) ?_
              show own_Go _ _ _ _ (T152.setTop (mkF m 43 #[.val (.ref ob), .val (.long (u0 + u1)), .second] [(.long (4000000000 : Int64)), (.ref ob)]))
              refine own_st (fun _ k => XS.goto X152.here hx rfl (pc0 := 43) (pc' := 60) rfl (hb hby d4_43) (by decide) (by decide) k) ?_
              show own_Go _ _ _ _ (T152.setTop (mkF m 60 #[.val (.ref ob), .val (.long (u0 + u1)), .second] [(.long (4000000000 : Int64)), (.ref ob)]))
              obtain ⟨T153, h153, X153, e153, W153, st153⟩ := putF X152 hx hZ hown (host := "") (Or.inl (hw _ (List.mem_of_getElem? (i := 11) rfl))) Via.refl e152 y149_F_ob_interval y149_E_ob (Or.inl (hw _ (List.mem_of_getElem? (i := 12) rfl))) (hw _ (List.mem_of_getElem? (i := 2) rfl)) (ty := .long) (by decide) rfl rfl (g := (mkF m 60 #[.val (.ref ob), .val (.long (u0 + u1)), .second] [(.long (4000000000 : Int64)), (.ref ob)])) rfl rfl (hb hby d4_60)
              refine own_st st153 ?_
              have Fw153 : Fld Z h153 ob "com/example/troskel/troskel/service/RetransmissionTimer" "interval" "J" (.long (4000000000 : Int64)) := y149_F_ob_interval.same W153
              have y153_E_ob := y149_E_ob.wr W153
              have y153_F_ob_timeoutAt := y149_F_ob_timeoutAt.other W153 (Or.inr (slot_ne (Or.inr (hw _ (List.mem_of_getElem? (i := 15) rfl))) (Or.inl (hw _ (List.mem_of_getElem? (i := 12) rfl))) (by decide) (t := .long) (t' := .long) (by decide) (by decide)))
              have y153_F_ob_next := Fw149.other W153 (Or.inr (slot_ne (Or.inl (hw _ (List.mem_of_getElem? (i := 17) rfl))) (Or.inl (hw _ (List.mem_of_getElem? (i := 12) rfl))) (by decide) (t := .long) (t' := .long) (by decide) (by decide)))
              have y153_F_ob_proceeding := y149_F_ob_proceeding.other W153 (Or.inr (slot_ne (Or.inl (hw _ (List.mem_of_getElem? (i := 44) rfl))) (Or.inl (hw _ (List.mem_of_getElem? (i := 12) rfl))) (by decide) (t := .boolean) (t' := .long) (by decide) (by decide)))
              have Z153 : n0 ≤ h153.size := Nat.le_trans Z149 (Nat.le_of_eq W153.size.symm)
              have N153 := Fr.snoc X153 N149 gnob
              have K153 : Keep h0 h153 [ob] := K149.wr W153 (Or.inl (by simp))
              show own_Go _ _ _ _ (T153.setTop (mkF m 63 #[.val (.ref ob), .val (.long (u0 + u1)), .second] []))
              refine own_st (fun _ k => XS.aloadN X153.here hx rfl (hb hby d4_63) rfl rfl k) ?_
              show own_Go _ _ _ _ (T153.setTop (mkF m 64 #[.val (.ref ob), .val (.long (u0 + u1)), .second] [(.ref ob)]))
              refine own_st (fun _ k => XS.dup X153.here hx rfl (hb hby d4_64) rfl rfl k) ?_
              show own_Go _ _ _ _ (T153.setTop (mkF m 65 #[.val (.ref ob), .val (.long (u0 + u1)), .second] [(.ref ob), (.ref ob)]))
              obtain ⟨T154, X154, e154, st154⟩ := getF X153 hx hZ hown (host := "") (Or.inl (hw _ (List.mem_of_getElem? (i := 16) rfl))) Via.refl e153 y153_F_ob_next (g := (mkF m 65 #[.val (.ref ob), .val (.long (u0 + u1)), .second] [(.ref ob), (.ref ob)])) rfl rfl (hb hby d4_65)
              refine own_st st154 ?_
              show own_Go _ _ _ _ (T154.setTop (mkF m 68 #[.val (.ref ob), .val (.long (u0 + u1)), .second] [(.long (u0 + (16500000000 : Int64))), (.ref ob)]))
              refine own_st (fun _ k => XS.aloadN X154.here hx rfl (hb hby d4_68) rfl rfl k) ?_
              show own_Go _ _ _ _ (T154.setTop (mkF m 69 #[.val (.ref ob), .val (.long (u0 + u1)), .second] [(.ref ob), (.long (u0 + (16500000000 : Int64))), (.ref ob)]))
              obtain ⟨T155, X155, e155, st155⟩ := getF X154 hx hZ hown (host := "") (Or.inl (hw _ (List.mem_of_getElem? (i := 11) rfl))) Via.refl e154 Fw153 (g := (mkF m 69 #[.val (.ref ob), .val (.long (u0 + u1)), .second] [(.ref ob), (.long (u0 + (16500000000 : Int64))), (.ref ob)])) rfl rfl (hb hby d4_69)
              refine own_st st155 ?_
              show own_Go _ _ _ _ (T155.setTop (mkF m 72 #[.val (.ref ob), .val (.long (u0 + u1)), .second] [(.long (4000000000 : Int64)), (.long (u0 + (16500000000 : Int64))), (.ref ob)]))
              refine own_st (fun _ k => XS.ladd X155.here hx rfl (hb hby d4_72) rfl k) ?_
              rw [show ((u0 + (16500000000 : Int64)) + (4000000000 : Int64)) = (u0 + (20500000000 : Int64)) from by rw [Int64.add_assoc, show (16500000000 : Int64) + (4000000000 : Int64) = (20500000000 : Int64) from by decide]]
              show own_Go _ _ _ _ (T155.setTop (mkF m 73 #[.val (.ref ob), .val (.long (u0 + u1)), .second] [(.long (u0 + (20500000000 : Int64))), (.ref ob)]))
              obtain ⟨T156, h156, X156, e156, W156, st156⟩ := putF X155 hx hZ hown (host := "") (Or.inl (hw _ (List.mem_of_getElem? (i := 16) rfl))) Via.refl e155 y153_F_ob_next y153_E_ob (Or.inl (hw _ (List.mem_of_getElem? (i := 17) rfl))) (hw _ (List.mem_of_getElem? (i := 2) rfl)) (ty := .long) (by decide) rfl rfl (g := (mkF m 73 #[.val (.ref ob), .val (.long (u0 + u1)), .second] [(.long (u0 + (20500000000 : Int64))), (.ref ob)])) rfl rfl (hb hby d4_73)
              refine own_st st156 ?_
              have Fw156 : Fld Z h156 ob "com/example/troskel/troskel/service/RetransmissionTimer" "next" "J" (.long (u0 + (20500000000 : Int64))) := y153_F_ob_next.same W156
              have y156_E_ob := y153_E_ob.wr W156
              have y156_F_ob_interval := Fw153.other W156 (Or.inr (slot_ne (Or.inl (hw _ (List.mem_of_getElem? (i := 12) rfl))) (Or.inl (hw _ (List.mem_of_getElem? (i := 17) rfl))) (by decide) (t := .long) (t' := .long) (by decide) (by decide)))
              have y156_F_ob_timeoutAt := y153_F_ob_timeoutAt.other W156 (Or.inr (slot_ne (Or.inr (hw _ (List.mem_of_getElem? (i := 15) rfl))) (Or.inl (hw _ (List.mem_of_getElem? (i := 17) rfl))) (by decide) (t := .long) (t' := .long) (by decide) (by decide)))
              have y156_F_ob_proceeding := y153_F_ob_proceeding.other W156 (Or.inr (slot_ne (Or.inl (hw _ (List.mem_of_getElem? (i := 44) rfl))) (Or.inl (hw _ (List.mem_of_getElem? (i := 17) rfl))) (by decide) (t := .boolean) (t' := .long) (by decide) (by decide)))
              have Z156 : n0 ≤ h156.size := Nat.le_trans Z153 (Nat.le_of_eq W156.size.symm)
              have N156 := Fr.snoc X156 N153 gnob
              have K156 : Keep h0 h156 [ob] := K153.wr W156 (Or.inl (by simp))
              show own_Go _ _ _ _ (T156.setTop (mkF m 76 #[.val (.ref ob), .val (.long (u0 + u1)), .second] []))
              refine own_st (fun _ k => XS.goto X156.here hx rfl (pc0 := 76) (pc' := 21) rfl (hb hby d4_76) (by decide) (by decide) k) ?_
              show own_Go _ _ _ _ (T156.setTop (mkF m 21 #[.val (.ref ob), .val (.long (u0 + u1)), .second] []))
              refine own_st (fun _ k => XS.lloadN X156.here hx rfl (hb hby d4_21) rfl k) ?_
              show own_Go _ _ _ _ (T156.setTop (mkF m 22 #[.val (.ref ob), .val (.long (u0 + u1)), .second] [(.long (u0 + u1))]))
              refine own_st (fun _ k => XS.aloadN X156.here hx rfl (hb hby d4_22) rfl rfl k) ?_
              show own_Go _ _ _ _ (T156.setTop (mkF m 23 #[.val (.ref ob), .val (.long (u0 + u1)), .second] [(.ref ob), (.long (u0 + u1))]))
              obtain ⟨T157, X157, e157, st157⟩ := getF X156 hx hZ hown (host := "") (Or.inl (hw _ (List.mem_of_getElem? (i := 16) rfl))) Via.refl e156 Fw156 (g := (mkF m 23 #[.val (.ref ob), .val (.long (u0 + u1)), .second] [(.ref ob), (.long (u0 + u1))])) rfl rfl (hb hby d4_23)
              refine own_st st157 ?_
              show own_Go _ _ _ _ (T157.setTop (mkF m 26 #[.val (.ref ob), .val (.long (u0 + u1)), .second] [(.long (u0 + (20500000000 : Int64))), (.long (u0 + u1))]))
              refine own_st (fun _ k => XS.lsub X157.here hx rfl (hb hby d4_26) rfl k) ?_
              show own_Go _ _ _ _ (T157.setTop (mkF m 27 #[.val (.ref ob), .val (.long (u0 + u1)), .second] [(.long ((u0 + u1) - (u0 + (20500000000 : Int64))))]))
              refine own_st (fun _ k => XS.lconst X157.here hx rfl (hb hby d4_27) k) ?_
              show own_Go _ _ _ _ (T157.setTop (mkF m 28 #[.val (.ref ob), .val (.long (u0 + u1)), .second] [(.long (0 : Int64)), (.long ((u0 + u1) - (u0 + (20500000000 : Int64))))]))
              refine own_st (fun _ k => XS.lcmp X157.here hx rfl (hb hby d4_28) rfl k) ?_
              show own_Go _ _ _ _ (T157.setTop (mkF m 29 #[.val (.ref ob), .val (.long (u0 + u1)), .second] [(.int (lcmpW ((u0 + u1) - (u0 + (20500000000 : Int64))) (0 : Int64)))]))
              by_cases hc158 : (lcmpW ((u0 + u1) - (u0 + (20500000000 : Int64))) (0 : Int64)) < (0 : Int32)
              · skip
                refine own_st (fun _ k => XS.ifYes X157.here hx rfl (pc0 := 29) (pc' := 79) rfl (hb hby d4_29) rfl ((if0 _ _).trans (tlt hc158).1) (by decide) (by decide) k) ?_
                show own_Go _ _ _ _ (T157.setTop (mkF m 79 #[.val (.ref ob), .val (.long (u0 + u1)), .second] []))
                refine own_st (fun _ k => XS.iconst X157.here hx rfl (hb hby d4_79) k) ?_
                show own_Go _ _ _ _ (T157.setTop (mkF m 80 #[.val (.ref ob), .val (.long (u0 + u1)), .second] [(.int (1 : Int32))]))
                obtain ⟨fs, hr, hrun, hended, hW, hsame⟩ := X157.leave (v := some (.int (1 : Int32))) (fun h => by rw [Bd.returns] at h; cases h)
                refine own_out (retN X157 hx (t := .boolean) Bd.returns (by simp) (hb hby d4_80) hr) ⟨hrun, hended, _, _, rfl, ?_, ⟨_, rfl⟩, hW, hsame.mono (by decide) (by decide)⟩
                show Q4_1 Z ob u0 u1 h0 n0 _ T157.heap _
                have hv : own_nx1 u0 u1 = (u0 + (20500000000 : Int64)) := by
                  unfold own_nx1
                  rw [if_pos hc120, if_neg hc122, if_neg hc130, if_neg hc137, if_neg hc144, if_neg hc151, if_pos hc158]
                rw [e157]
                exact ⟨_, rfl, N156, K156, y156_E_ob, by rw [hv]; exact Fw156, y156_F_ob_timeoutAt⟩
              · skip
                refine own_st (fun _ k => XS.ifNo X157.here hx rfl (hb hby d4_29) rfl ((if0 _ _).trans (flt hc158).1) k) ?_
                show own_Go _ _ _ _ (T157.setTop (mkF m 32 #[.val (.ref ob), .val (.long (u0 + u1)), .second] []))
                refine own_st (fun _ k => XS.aloadN X157.here hx rfl (hb hby d4_32) rfl rfl k) ?_
                show own_Go _ _ _ _ (T157.setTop (mkF m 33 #[.val (.ref ob), .val (.long (u0 + u1)), .second] [(.ref ob)]))
                refine own_st (fun _ k => XS.aloadN X157.here hx rfl (hb hby d4_33) rfl rfl k) ?_
                show own_Go _ _ _ _ (T157.setTop (mkF m 34 #[.val (.ref ob), .val (.long (u0 + u1)), .second] [(.ref ob), (.ref ob)]))
                obtain ⟨T159, X159, e159, st159⟩ := getF X157 hx hZ hown (host := "") (Or.inl (hw _ (List.mem_of_getElem? (i := 43) rfl))) Via.refl e157 y156_F_ob_proceeding (g := (mkF m 34 #[.val (.ref ob), .val (.long (u0 + u1)), .second] [(.ref ob), (.ref ob)])) rfl rfl (hb hby d4_34)
                refine own_st st159 ?_
                show own_Go _ _ _ _ (T159.setTop (mkF m 37 #[.val (.ref ob), .val (.long (u0 + u1)), .second] [(.int (1 : Int32)), (.ref ob)]))
                refine own_st (fun _ k => XS.ifNo X159.here hx rfl (hb hby d4_37) rfl ((if0 _ _).trans (feq (by decide : ¬ ((1 : Int32) = (0 : Int32)))).1) k) ?_
                show own_Go _ _ _ _ (T159.setTop (mkF m 40 #[.val (.ref ob), .val (.long (u0 + u1)), .second] [(.ref ob)]))
                refine own_st (fun _ k => X159.ldc2Long hx hown (mvT hZ (hw _ (List.mem_of_getElem? (i := 46) rfl))) (g := (mkF m 40 #[.val (.ref ob), .val (.long (u0 + u1)), .second] [(.ref ob)])) rfl (hb hby d4_40) _ k) ?_
                show own_Go _ _ _ _ (T159.setTop (mkF m 43 #[.val (.ref ob), .val (.long (u0 + u1)), .second] [(.long (4000000000 : Int64)), (.ref ob)]))
                refine own_st (fun _ k => XS.goto X159.here hx rfl (pc0 := 43) (pc' := 60) rfl (hb hby d4_43) (by decide) (by decide) k) ?_
                show own_Go _ _ _ _ (T159.setTop (mkF m 60 #[.val (.ref ob), .val (.long (u0 + u1)), .second] [(.long (4000000000 : Int64)), (.ref ob)]))
                obtain ⟨T160, h160, X160, e160, W160, st160⟩ := putF X159 hx hZ hown (host := "") (Or.inl (hw _ (List.mem_of_getElem? (i := 11) rfl))) Via.refl e159 y156_F_ob_interval y156_E_ob (Or.inl (hw _ (List.mem_of_getElem? (i := 12) rfl))) (hw _ (List.mem_of_getElem? (i := 2) rfl)) (ty := .long) (by decide) rfl rfl (g := (mkF m 60 #[.val (.ref ob), .val (.long (u0 + u1)), .second] [(.long (4000000000 : Int64)), (.ref ob)])) rfl rfl (hb hby d4_60)
                refine own_st st160 ?_
                have Fw160 : Fld Z h160 ob "com/example/troskel/troskel/service/RetransmissionTimer" "interval" "J" (.long (4000000000 : Int64)) := y156_F_ob_interval.same W160
                have y160_E_ob := y156_E_ob.wr W160
                have y160_F_ob_timeoutAt := y156_F_ob_timeoutAt.other W160 (Or.inr (slot_ne (Or.inr (hw _ (List.mem_of_getElem? (i := 15) rfl))) (Or.inl (hw _ (List.mem_of_getElem? (i := 12) rfl))) (by decide) (t := .long) (t' := .long) (by decide) (by decide)))
                have y160_F_ob_next := Fw156.other W160 (Or.inr (slot_ne (Or.inl (hw _ (List.mem_of_getElem? (i := 17) rfl))) (Or.inl (hw _ (List.mem_of_getElem? (i := 12) rfl))) (by decide) (t := .long) (t' := .long) (by decide) (by decide)))
                have y160_F_ob_proceeding := y156_F_ob_proceeding.other W160 (Or.inr (slot_ne (Or.inl (hw _ (List.mem_of_getElem? (i := 44) rfl))) (Or.inl (hw _ (List.mem_of_getElem? (i := 12) rfl))) (by decide) (t := .boolean) (t' := .long) (by decide) (by decide)))
                have Z160 : n0 ≤ h160.size := Nat.le_trans Z156 (Nat.le_of_eq W160.size.symm)
                have N160 := Fr.snoc X160 N156 gnob
                have K160 : Keep h0 h160 [ob] := K156.wr W160 (Or.inl (by simp))
                show own_Go _ _ _ _ (T160.setTop (mkF m 63 #[.val (.ref ob), .val (.long (u0 + u1)), .second] []))
                refine own_st (fun _ k => XS.aloadN X160.here hx rfl (hb hby d4_63) rfl rfl k) ?_
                show own_Go _ _ _ _ (T160.setTop (mkF m 64 #[.val (.ref ob), .val (.long (u0 + u1)), .second] [(.ref ob)]))
                refine own_st (fun _ k => XS.dup X160.here hx rfl (hb hby d4_64) rfl rfl k) ?_
                show own_Go _ _ _ _ (T160.setTop (mkF m 65 #[.val (.ref ob), .val (.long (u0 + u1)), .second] [(.ref ob), (.ref ob)]))
                obtain ⟨T161, X161, e161, st161⟩ := getF X160 hx hZ hown (host := "") (Or.inl (hw _ (List.mem_of_getElem? (i := 16) rfl))) Via.refl e160 y160_F_ob_next (g := (mkF m 65 #[.val (.ref ob), .val (.long (u0 + u1)), .second] [(.ref ob), (.ref ob)])) rfl rfl (hb hby d4_65)
                refine own_st st161 ?_
                show own_Go _ _ _ _ (T161.setTop (mkF m 68 #[.val (.ref ob), .val (.long (u0 + u1)), .second] [(.long (u0 + (20500000000 : Int64))), (.ref ob)]))
                refine own_st (fun _ k => XS.aloadN X161.here hx rfl (hb hby d4_68) rfl rfl k) ?_
                show own_Go _ _ _ _ (T161.setTop (mkF m 69 #[.val (.ref ob), .val (.long (u0 + u1)), .second] [(.ref ob), (.long (u0 + (20500000000 : Int64))), (.ref ob)]))
                obtain ⟨T162, X162, e162, st162⟩ := getF X161 hx hZ hown (host := "") (Or.inl (hw _ (List.mem_of_getElem? (i := 11) rfl))) Via.refl e161 Fw160 (g := (mkF m 69 #[.val (.ref ob), .val (.long (u0 + u1)), .second] [(.ref ob), (.long (u0 + (20500000000 : Int64))), (.ref ob)])) rfl rfl (hb hby d4_69)
                refine own_st st162 ?_
                show own_Go _ _ _ _ (T162.setTop (mkF m 72 #[.val (.ref ob), .val (.long (u0 + u1)), .second] [(.long (4000000000 : Int64)), (.long (u0 + (20500000000 : Int64))), (.ref ob)]))
                refine own_st (fun _ k => XS.ladd X162.here hx rfl (hb hby d4_72) rfl k) ?_
                rw [show ((u0 + (20500000000 : Int64)) + (4000000000 : Int64)) = (u0 + (24500000000 : Int64)) from by rw [Int64.add_assoc, show (20500000000 : Int64) + (4000000000 : Int64) = (24500000000 : Int64) from by decide]]
                show own_Go _ _ _ _ (T162.setTop (mkF m 73 #[.val (.ref ob), .val (.long (u0 + u1)), .second] [(.long (u0 + (24500000000 : Int64))), (.ref ob)]))
                obtain ⟨T163, h163, X163, e163, W163, st163⟩ := putF X162 hx hZ hown (host := "") (Or.inl (hw _ (List.mem_of_getElem? (i := 16) rfl))) Via.refl e162 y160_F_ob_next y160_E_ob (Or.inl (hw _ (List.mem_of_getElem? (i := 17) rfl))) (hw _ (List.mem_of_getElem? (i := 2) rfl)) (ty := .long) (by decide) rfl rfl (g := (mkF m 73 #[.val (.ref ob), .val (.long (u0 + u1)), .second] [(.long (u0 + (24500000000 : Int64))), (.ref ob)])) rfl rfl (hb hby d4_73)
                refine own_st st163 ?_
                have Fw163 : Fld Z h163 ob "com/example/troskel/troskel/service/RetransmissionTimer" "next" "J" (.long (u0 + (24500000000 : Int64))) := y160_F_ob_next.same W163
                have y163_E_ob := y160_E_ob.wr W163
                have y163_F_ob_interval := Fw160.other W163 (Or.inr (slot_ne (Or.inl (hw _ (List.mem_of_getElem? (i := 12) rfl))) (Or.inl (hw _ (List.mem_of_getElem? (i := 17) rfl))) (by decide) (t := .long) (t' := .long) (by decide) (by decide)))
                have y163_F_ob_timeoutAt := y160_F_ob_timeoutAt.other W163 (Or.inr (slot_ne (Or.inr (hw _ (List.mem_of_getElem? (i := 15) rfl))) (Or.inl (hw _ (List.mem_of_getElem? (i := 17) rfl))) (by decide) (t := .long) (t' := .long) (by decide) (by decide)))
                have y163_F_ob_proceeding := y160_F_ob_proceeding.other W163 (Or.inr (slot_ne (Or.inl (hw _ (List.mem_of_getElem? (i := 44) rfl))) (Or.inl (hw _ (List.mem_of_getElem? (i := 17) rfl))) (by decide) (t := .boolean) (t' := .long) (by decide) (by decide)))
                have Z163 : n0 ≤ h163.size := Nat.le_trans Z160 (Nat.le_of_eq W163.size.symm)
                have N163 := Fr.snoc X163 N160 gnob
                have K163 : Keep h0 h163 [ob] := K160.wr W163 (Or.inl (by simp))
                show own_Go _ _ _ _ (T163.setTop (mkF m 76 #[.val (.ref ob), .val (.long (u0 + u1)), .second] []))
                refine own_st (fun _ k => XS.goto X163.here hx rfl (pc0 := 76) (pc' := 21) rfl (hb hby d4_76) (by decide) (by decide) k) ?_
                show own_Go _ _ _ _ (T163.setTop (mkF m 21 #[.val (.ref ob), .val (.long (u0 + u1)), .second] []))
                refine own_st (fun _ k => XS.lloadN X163.here hx rfl (hb hby d4_21) rfl k) ?_
                show own_Go _ _ _ _ (T163.setTop (mkF m 22 #[.val (.ref ob), .val (.long (u0 + u1)), .second] [(.long (u0 + u1))]))
                refine own_st (fun _ k => XS.aloadN X163.here hx rfl (hb hby d4_22) rfl rfl k) ?_
                show own_Go _ _ _ _ (T163.setTop (mkF m 23 #[.val (.ref ob), .val (.long (u0 + u1)), .second] [(.ref ob), (.long (u0 + u1))]))
                obtain ⟨T164, X164, e164, st164⟩ := getF X163 hx hZ hown (host := "") (Or.inl (hw _ (List.mem_of_getElem? (i := 16) rfl))) Via.refl e163 Fw163 (g := (mkF m 23 #[.val (.ref ob), .val (.long (u0 + u1)), .second] [(.ref ob), (.long (u0 + u1))])) rfl rfl (hb hby d4_23)
                refine own_st st164 ?_
                show own_Go _ _ _ _ (T164.setTop (mkF m 26 #[.val (.ref ob), .val (.long (u0 + u1)), .second] [(.long (u0 + (24500000000 : Int64))), (.long (u0 + u1))]))
                refine own_st (fun _ k => XS.lsub X164.here hx rfl (hb hby d4_26) rfl k) ?_
                show own_Go _ _ _ _ (T164.setTop (mkF m 27 #[.val (.ref ob), .val (.long (u0 + u1)), .second] [(.long ((u0 + u1) - (u0 + (24500000000 : Int64))))]))
                refine own_st (fun _ k => XS.lconst X164.here hx rfl (hb hby d4_27) k) ?_
                show own_Go _ _ _ _ (T164.setTop (mkF m 28 #[.val (.ref ob), .val (.long (u0 + u1)), .second] [(.long (0 : Int64)), (.long ((u0 + u1) - (u0 + (24500000000 : Int64))))]))
                refine own_st (fun _ k => XS.lcmp X164.here hx rfl (hb hby d4_28) rfl k) ?_
                show own_Go _ _ _ _ (T164.setTop (mkF m 29 #[.val (.ref ob), .val (.long (u0 + u1)), .second] [(.int (lcmpW ((u0 + u1) - (u0 + (24500000000 : Int64))) (0 : Int64)))]))
                by_cases hc165 : (lcmpW ((u0 + u1) - (u0 + (24500000000 : Int64))) (0 : Int64)) < (0 : Int32)
                · skip
                  refine own_st (fun _ k => XS.ifYes X164.here hx rfl (pc0 := 29) (pc' := 79) rfl (hb hby d4_29) rfl ((if0 _ _).trans (tlt hc165).1) (by decide) (by decide) k) ?_
                  show own_Go _ _ _ _ (T164.setTop (mkF m 79 #[.val (.ref ob), .val (.long (u0 + u1)), .second] []))
                  refine own_st (fun _ k => XS.iconst X164.here hx rfl (hb hby d4_79) k) ?_
                  show own_Go _ _ _ _ (T164.setTop (mkF m 80 #[.val (.ref ob), .val (.long (u0 + u1)), .second] [(.int (1 : Int32))]))
                  obtain ⟨fs, hr, hrun, hended, hW, hsame⟩ := X164.leave (v := some (.int (1 : Int32))) (fun h => by rw [Bd.returns] at h; cases h)
                  refine own_out (retN X164 hx (t := .boolean) Bd.returns (by simp) (hb hby d4_80) hr) ⟨hrun, hended, _, _, rfl, ?_, ⟨_, rfl⟩, hW, hsame.mono (by decide) (by decide)⟩
                  show Q4_1 Z ob u0 u1 h0 n0 _ T164.heap _
                  have hv : own_nx1 u0 u1 = (u0 + (24500000000 : Int64)) := by
                    unfold own_nx1
                    rw [if_pos hc120, if_neg hc122, if_neg hc130, if_neg hc137, if_neg hc144, if_neg hc151, if_neg hc158, if_pos hc165]
                  rw [e164]
                  exact ⟨_, rfl, N163, K163, y163_E_ob, by rw [hv]; exact Fw163, y163_F_ob_timeoutAt⟩
                · skip
                  refine own_st (fun _ k => XS.ifNo X164.here hx rfl (hb hby d4_29) rfl ((if0 _ _).trans (flt hc165).1) k) ?_
                  show own_Go _ _ _ _ (T164.setTop (mkF m 32 #[.val (.ref ob), .val (.long (u0 + u1)), .second] []))
                  refine own_st (fun _ k => XS.aloadN X164.here hx rfl (hb hby d4_32) rfl rfl k) ?_
                  show own_Go _ _ _ _ (T164.setTop (mkF m 33 #[.val (.ref ob), .val (.long (u0 + u1)), .second] [(.ref ob)]))
                  refine own_st (fun _ k => XS.aloadN X164.here hx rfl (hb hby d4_33) rfl rfl k) ?_
                  show own_Go _ _ _ _ (T164.setTop (mkF m 34 #[.val (.ref ob), .val (.long (u0 + u1)), .second] [(.ref ob), (.ref ob)]))
                  obtain ⟨T166, X166, e166, st166⟩ := getF X164 hx hZ hown (host := "") (Or.inl (hw _ (List.mem_of_getElem? (i := 43) rfl))) Via.refl e164 y163_F_ob_proceeding (g := (mkF m 34 #[.val (.ref ob), .val (.long (u0 + u1)), .second] [(.ref ob), (.ref ob)])) rfl rfl (hb hby d4_34)
                  refine own_st st166 ?_
                  show own_Go _ _ _ _ (T166.setTop (mkF m 37 #[.val (.ref ob), .val (.long (u0 + u1)), .second] [(.int (1 : Int32)), (.ref ob)]))
                  refine own_st (fun _ k => XS.ifNo X166.here hx rfl (hb hby d4_37) rfl ((if0 _ _).trans (feq (by decide : ¬ ((1 : Int32) = (0 : Int32)))).1) k) ?_
                  show own_Go _ _ _ _ (T166.setTop (mkF m 40 #[.val (.ref ob), .val (.long (u0 + u1)), .second] [(.ref ob)]))
                  refine own_st (fun _ k => X166.ldc2Long hx hown (mvT hZ (hw _ (List.mem_of_getElem? (i := 46) rfl))) (g := (mkF m 40 #[.val (.ref ob), .val (.long (u0 + u1)), .second] [(.ref ob)])) rfl (hb hby d4_40) _ k) ?_
                  show own_Go _ _ _ _ (T166.setTop (mkF m 43 #[.val (.ref ob), .val (.long (u0 + u1)), .second] [(.long (4000000000 : Int64)), (.ref ob)]))
                  refine own_st (fun _ k => XS.goto X166.here hx rfl (pc0 := 43) (pc' := 60) rfl (hb hby d4_43) (by decide) (by decide) k) ?_
                  show own_Go _ _ _ _ (T166.setTop (mkF m 60 #[.val (.ref ob), .val (.long (u0 + u1)), .second] [(.long (4000000000 : Int64)), (.ref ob)]))
                  obtain ⟨T167, h167, X167, e167, W167, st167⟩ := putF X166 hx hZ hown (host := "") (Or.inl (hw _ (List.mem_of_getElem? (i := 11) rfl))) Via.refl e166 y163_F_ob_interval y163_E_ob (Or.inl (hw _ (List.mem_of_getElem? (i := 12) rfl))) (hw _ (List.mem_of_getElem? (i := 2) rfl)) (ty := .long) (by decide) rfl rfl (g := (mkF m 60 #[.val (.ref ob), .val (.long (u0 + u1)), .second] [(.long (4000000000 : Int64)), (.ref ob)])) rfl rfl (hb hby d4_60)
                  refine own_st st167 ?_
                  have Fw167 : Fld Z h167 ob "com/example/troskel/troskel/service/RetransmissionTimer" "interval" "J" (.long (4000000000 : Int64)) := y163_F_ob_interval.same W167
                  have y167_E_ob := y163_E_ob.wr W167
                  have y167_F_ob_timeoutAt := y163_F_ob_timeoutAt.other W167 (Or.inr (slot_ne (Or.inr (hw _ (List.mem_of_getElem? (i := 15) rfl))) (Or.inl (hw _ (List.mem_of_getElem? (i := 12) rfl))) (by decide) (t := .long) (t' := .long) (by decide) (by decide)))
                  have y167_F_ob_next := Fw163.other W167 (Or.inr (slot_ne (Or.inl (hw _ (List.mem_of_getElem? (i := 17) rfl))) (Or.inl (hw _ (List.mem_of_getElem? (i := 12) rfl))) (by decide) (t := .long) (t' := .long) (by decide) (by decide)))
                  have y167_F_ob_proceeding := y163_F_ob_proceeding.other W167 (Or.inr (slot_ne (Or.inl (hw _ (List.mem_of_getElem? (i := 44) rfl))) (Or.inl (hw _ (List.mem_of_getElem? (i := 12) rfl))) (by decide) (t := .boolean) (t' := .long) (by decide) (by decide)))
                  have Z167 : n0 ≤ h167.size := Nat.le_trans Z163 (Nat.le_of_eq W167.size.symm)
                  have N167 := Fr.snoc X167 N163 gnob
                  have K167 : Keep h0 h167 [ob] := K163.wr W167 (Or.inl (by simp))
                  show own_Go _ _ _ _ (T167.setTop (mkF m 63 #[.val (.ref ob), .val (.long (u0 + u1)), .second] []))
                  refine own_st (fun _ k => XS.aloadN X167.here hx rfl (hb hby d4_63) rfl rfl k) ?_
                  show own_Go _ _ _ _ (T167.setTop (mkF m 64 #[.val (.ref ob), .val (.long (u0 + u1)), .second] [(.ref ob)]))
                  refine own_st (fun _ k => XS.dup X167.here hx rfl (hb hby d4_64) rfl rfl k) ?_
                  show own_Go _ _ _ _ (T167.setTop (mkF m 65 #[.val (.ref ob), .val (.long (u0 + u1)), .second] [(.ref ob), (.ref ob)]))
                  obtain ⟨T168, X168, e168, st168⟩ := getF X167 hx hZ hown (host := "") (Or.inl (hw _ (List.mem_of_getElem? (i := 16) rfl))) Via.refl e167 y167_F_ob_next (g := (mkF m 65 #[.val (.ref ob), .val (.long (u0 + u1)), .second] [(.ref ob), (.ref ob)])) rfl rfl (hb hby d4_65)
                  refine own_st st168 ?_
                  show own_Go _ _ _ _ (T168.setTop (mkF m 68 #[.val (.ref ob), .val (.long (u0 + u1)), .second] [(.long (u0 + (24500000000 : Int64))), (.ref ob)]))
                  refine own_st (fun _ k => XS.aloadN X168.here hx rfl (hb hby d4_68) rfl rfl k) ?_
                  show own_Go _ _ _ _ (T168.setTop (mkF m 69 #[.val (.ref ob), .val (.long (u0 + u1)), .second] [(.ref ob), (.long (u0 + (24500000000 : Int64))), (.ref ob)]))
                  obtain ⟨T169, X169, e169, st169⟩ := getF X168 hx hZ hown (host := "") (Or.inl (hw _ (List.mem_of_getElem? (i := 11) rfl))) Via.refl e168 Fw167 (g := (mkF m 69 #[.val (.ref ob), .val (.long (u0 + u1)), .second] [(.ref ob), (.long (u0 + (24500000000 : Int64))), (.ref ob)])) rfl rfl (hb hby d4_69)
                  refine own_st st169 ?_
                  show own_Go _ _ _ _ (T169.setTop (mkF m 72 #[.val (.ref ob), .val (.long (u0 + u1)), .second] [(.long (4000000000 : Int64)), (.long (u0 + (24500000000 : Int64))), (.ref ob)]))
                  refine own_st (fun _ k => XS.ladd X169.here hx rfl (hb hby d4_72) rfl k) ?_
                  rw [show ((u0 + (24500000000 : Int64)) + (4000000000 : Int64)) = (u0 + (28500000000 : Int64)) from by rw [Int64.add_assoc, show (24500000000 : Int64) + (4000000000 : Int64) = (28500000000 : Int64) from by decide]]
                  show own_Go _ _ _ _ (T169.setTop (mkF m 73 #[.val (.ref ob), .val (.long (u0 + u1)), .second] [(.long (u0 + (28500000000 : Int64))), (.ref ob)]))
                  obtain ⟨T170, h170, X170, e170, W170, st170⟩ := putF X169 hx hZ hown (host := "") (Or.inl (hw _ (List.mem_of_getElem? (i := 16) rfl))) Via.refl e169 y167_F_ob_next y167_E_ob (Or.inl (hw _ (List.mem_of_getElem? (i := 17) rfl))) (hw _ (List.mem_of_getElem? (i := 2) rfl)) (ty := .long) (by decide) rfl rfl (g := (mkF m 73 #[.val (.ref ob), .val (.long (u0 + u1)), .second] [(.long (u0 + (28500000000 : Int64))), (.ref ob)])) rfl rfl (hb hby d4_73)
                  refine own_st st170 ?_
                  have Fw170 : Fld Z h170 ob "com/example/troskel/troskel/service/RetransmissionTimer" "next" "J" (.long (u0 + (28500000000 : Int64))) := y167_F_ob_next.same W170
                  have y170_E_ob := y167_E_ob.wr W170
                  have y170_F_ob_interval := Fw167.other W170 (Or.inr (slot_ne (Or.inl (hw _ (List.mem_of_getElem? (i := 12) rfl))) (Or.inl (hw _ (List.mem_of_getElem? (i := 17) rfl))) (by decide) (t := .long) (t' := .long) (by decide) (by decide)))
                  have y170_F_ob_timeoutAt := y167_F_ob_timeoutAt.other W170 (Or.inr (slot_ne (Or.inr (hw _ (List.mem_of_getElem? (i := 15) rfl))) (Or.inl (hw _ (List.mem_of_getElem? (i := 17) rfl))) (by decide) (t := .long) (t' := .long) (by decide) (by decide)))
                  have y170_F_ob_proceeding := y167_F_ob_proceeding.other W170 (Or.inr (slot_ne (Or.inl (hw _ (List.mem_of_getElem? (i := 44) rfl))) (Or.inl (hw _ (List.mem_of_getElem? (i := 17) rfl))) (by decide) (t := .boolean) (t' := .long) (by decide) (by decide)))
                  have Z170 : n0 ≤ h170.size := Nat.le_trans Z167 (Nat.le_of_eq W170.size.symm)
                  have N170 := Fr.snoc X170 N167 gnob
                  have K170 : Keep h0 h170 [ob] := K167.wr W170 (Or.inl (by simp))
                  show own_Go _ _ _ _ (T170.setTop (mkF m 76 #[.val (.ref ob), .val (.long (u0 + u1)), .second] []))
                  refine own_st (fun _ k => XS.goto X170.here hx rfl (pc0 := 76) (pc' := 21) rfl (hb hby d4_76) (by decide) (by decide) k) ?_
                  show own_Go _ _ _ _ (T170.setTop (mkF m 21 #[.val (.ref ob), .val (.long (u0 + u1)), .second] []))
                  refine own_st (fun _ k => XS.lloadN X170.here hx rfl (hb hby d4_21) rfl k) ?_
                  show own_Go _ _ _ _ (T170.setTop (mkF m 22 #[.val (.ref ob), .val (.long (u0 + u1)), .second] [(.long (u0 + u1))]))
                  refine own_st (fun _ k => XS.aloadN X170.here hx rfl (hb hby d4_22) rfl rfl k) ?_
                  show own_Go _ _ _ _ (T170.setTop (mkF m 23 #[.val (.ref ob), .val (.long (u0 + u1)), .second] [(.ref ob), (.long (u0 + u1))]))
                  obtain ⟨T171, X171, e171, st171⟩ := getF X170 hx hZ hown (host := "") (Or.inl (hw _ (List.mem_of_getElem? (i := 16) rfl))) Via.refl e170 Fw170 (g := (mkF m 23 #[.val (.ref ob), .val (.long (u0 + u1)), .second] [(.ref ob), (.long (u0 + u1))])) rfl rfl (hb hby d4_23)
                  refine own_st st171 ?_
                  show own_Go _ _ _ _ (T171.setTop (mkF m 26 #[.val (.ref ob), .val (.long (u0 + u1)), .second] [(.long (u0 + (28500000000 : Int64))), (.long (u0 + u1))]))
                  refine own_st (fun _ k => XS.lsub X171.here hx rfl (hb hby d4_26) rfl k) ?_
                  show own_Go _ _ _ _ (T171.setTop (mkF m 27 #[.val (.ref ob), .val (.long (u0 + u1)), .second] [(.long ((u0 + u1) - (u0 + (28500000000 : Int64))))]))
                  refine own_st (fun _ k => XS.lconst X171.here hx rfl (hb hby d4_27) k) ?_
                  show own_Go _ _ _ _ (T171.setTop (mkF m 28 #[.val (.ref ob), .val (.long (u0 + u1)), .second] [(.long (0 : Int64)), (.long ((u0 + u1) - (u0 + (28500000000 : Int64))))]))
                  refine own_st (fun _ k => XS.lcmp X171.here hx rfl (hb hby d4_28) rfl k) ?_
                  show own_Go _ _ _ _ (T171.setTop (mkF m 29 #[.val (.ref ob), .val (.long (u0 + u1)), .second] [(.int (lcmpW ((u0 + u1) - (u0 + (28500000000 : Int64))) (0 : Int64)))]))
                  by_cases hc172 : (lcmpW ((u0 + u1) - (u0 + (28500000000 : Int64))) (0 : Int64)) < (0 : Int32)
                  · skip
                    refine own_st (fun _ k => XS.ifYes X171.here hx rfl (pc0 := 29) (pc' := 79) rfl (hb hby d4_29) rfl ((if0 _ _).trans (tlt hc172).1) (by decide) (by decide) k) ?_
                    show own_Go _ _ _ _ (T171.setTop (mkF m 79 #[.val (.ref ob), .val (.long (u0 + u1)), .second] []))
                    refine own_st (fun _ k => XS.iconst X171.here hx rfl (hb hby d4_79) k) ?_
                    show own_Go _ _ _ _ (T171.setTop (mkF m 80 #[.val (.ref ob), .val (.long (u0 + u1)), .second] [(.int (1 : Int32))]))
                    obtain ⟨fs, hr, hrun, hended, hW, hsame⟩ := X171.leave (v := some (.int (1 : Int32))) (fun h => by rw [Bd.returns] at h; cases h)
                    refine own_out (retN X171 hx (t := .boolean) Bd.returns (by simp) (hb hby d4_80) hr) ⟨hrun, hended, _, _, rfl, ?_, ⟨_, rfl⟩, hW, hsame.mono (by decide) (by decide)⟩
                    show Q4_1 Z ob u0 u1 h0 n0 _ T171.heap _
                    have hv : own_nx1 u0 u1 = (u0 + (28500000000 : Int64)) := by
                      unfold own_nx1
                      rw [if_pos hc120, if_neg hc122, if_neg hc130, if_neg hc137, if_neg hc144, if_neg hc151, if_neg hc158, if_neg hc165, if_pos hc172]
                    rw [e171]
                    exact ⟨_, rfl, N170, K170, y170_E_ob, by rw [hv]; exact Fw170, y170_F_ob_timeoutAt⟩
                  · skip
                    refine own_st (fun _ k => XS.ifNo X171.here hx rfl (hb hby d4_29) rfl ((if0 _ _).trans (flt hc172).1) k) ?_
                    show own_Go _ _ _ _ (T171.setTop (mkF m 32 #[.val (.ref ob), .val (.long (u0 + u1)), .second] []))
                    refine own_st (fun _ k => XS.aloadN X171.here hx rfl (hb hby d4_32) rfl rfl k) ?_
                    show own_Go _ _ _ _ (T171.setTop (mkF m 33 #[.val (.ref ob), .val (.long (u0 + u1)), .second] [(.ref ob)]))
                    refine own_st (fun _ k => XS.aloadN X171.here hx rfl (hb hby d4_33) rfl rfl k) ?_
                    show own_Go _ _ _ _ (T171.setTop (mkF m 34 #[.val (.ref ob), .val (.long (u0 + u1)), .second] [(.ref ob), (.ref ob)]))
                    obtain ⟨T173, X173, e173, st173⟩ := getF X171 hx hZ hown (host := "") (Or.inl (hw _ (List.mem_of_getElem? (i := 43) rfl))) Via.refl e171 y170_F_ob_proceeding (g := (mkF m 34 #[.val (.ref ob), .val (.long (u0 + u1)), .second] [(.ref ob), (.ref ob)])) rfl rfl (hb hby d4_34)
                    refine own_st st173 ?_
                    show own_Go _ _ _ _ (T173.setTop (mkF m 37 #[.val (.ref ob), .val (.long (u0 + u1)), .second] [(.int (1 : Int32)), (.ref ob)]))
                    refine own_st (fun _ k => XS.ifNo X173.here hx rfl (hb hby d4_37) rfl ((if0 _ _).trans (feq (by decide : ¬ ((1 : Int32) = (0 : Int32)))).1) k) ?_
                    show own_Go _ _ _ _ (T173.setTop (mkF m 40 #[.val (.ref ob), .val (.long (u0 + u1)), .second] [(.ref ob)]))
                    refine own_st (fun _ k => X173.ldc2Long hx hown (mvT hZ (hw _ (List.mem_of_getElem? (i := 46) rfl))) (g := (mkF m 40 #[.val (.ref ob), .val (.long (u0 + u1)), .second] [(.ref ob)])) rfl (hb hby d4_40) _ k) ?_
                    show own_Go _ _ _ _ (T173.setTop (mkF m 43 #[.val (.ref ob), .val (.long (u0 + u1)), .second] [(.long (4000000000 : Int64)), (.ref ob)]))
                    refine own_st (fun _ k => XS.goto X173.here hx rfl (pc0 := 43) (pc' := 60) rfl (hb hby d4_43) (by decide) (by decide) k) ?_
                    show own_Go _ _ _ _ (T173.setTop (mkF m 60 #[.val (.ref ob), .val (.long (u0 + u1)), .second] [(.long (4000000000 : Int64)), (.ref ob)]))
                    obtain ⟨T174, h174, X174, e174, W174, st174⟩ := putF X173 hx hZ hown (host := "") (Or.inl (hw _ (List.mem_of_getElem? (i := 11) rfl))) Via.refl e173 y170_F_ob_interval y170_E_ob (Or.inl (hw _ (List.mem_of_getElem? (i := 12) rfl))) (hw _ (List.mem_of_getElem? (i := 2) rfl)) (ty := .long) (by decide) rfl rfl (g := (mkF m 60 #[.val (.ref ob), .val (.long (u0 + u1)), .second] [(.long (4000000000 : Int64)), (.ref ob)])) rfl rfl (hb hby d4_60)
                    refine own_st st174 ?_
                    have Fw174 : Fld Z h174 ob "com/example/troskel/troskel/service/RetransmissionTimer" "interval" "J" (.long (4000000000 : Int64)) := y170_F_ob_interval.same W174
                    have y174_E_ob := y170_E_ob.wr W174
                    have y174_F_ob_timeoutAt := y170_F_ob_timeoutAt.other W174 (Or.inr (slot_ne (Or.inr (hw _ (List.mem_of_getElem? (i := 15) rfl))) (Or.inl (hw _ (List.mem_of_getElem? (i := 12) rfl))) (by decide) (t := .long) (t' := .long) (by decide) (by decide)))
                    have y174_F_ob_next := Fw170.other W174 (Or.inr (slot_ne (Or.inl (hw _ (List.mem_of_getElem? (i := 17) rfl))) (Or.inl (hw _ (List.mem_of_getElem? (i := 12) rfl))) (by decide) (t := .long) (t' := .long) (by decide) (by decide)))
                    have y174_F_ob_proceeding := y170_F_ob_proceeding.other W174 (Or.inr (slot_ne (Or.inl (hw _ (List.mem_of_getElem? (i := 44) rfl))) (Or.inl (hw _ (List.mem_of_getElem? (i := 12) rfl))) (by decide) (t := .boolean) (t' := .long) (by decide) (by decide)))
                    have Z174 : n0 ≤ h174.size := Nat.le_trans Z170 (Nat.le_of_eq W174.size.symm)
                    have N174 := Fr.snoc X174 N170 gnob
                    have K174 : Keep h0 h174 [ob] := K170.wr W174 (Or.inl (by simp))
                    show own_Go _ _ _ _ (T174.setTop (mkF m 63 #[.val (.ref ob), .val (.long (u0 + u1)), .second] []))
                    refine own_st (fun _ k => XS.aloadN X174.here hx rfl (hb hby d4_63) rfl rfl k) ?_
                    show own_Go _ _ _ _ (T174.setTop (mkF m 64 #[.val (.ref ob), .val (.long (u0 + u1)), .second] [(.ref ob)]))
                    refine own_st (fun _ k => XS.dup X174.here hx rfl (hb hby d4_64) rfl rfl k) ?_
                    show own_Go _ _ _ _ (T174.setTop (mkF m 65 #[.val (.ref ob), .val (.long (u0 + u1)), .second] [(.ref ob), (.ref ob)]))
                    obtain ⟨T175, X175, e175, st175⟩ := getF X174 hx hZ hown (host := "") (Or.inl (hw _ (List.mem_of_getElem? (i := 16) rfl))) Via.refl e174 y174_F_ob_next (g := (mkF m 65 #[.val (.ref ob), .val (.long (u0 + u1)), .second] [(.ref ob), (.ref ob)])) rfl rfl (hb hby d4_65)
                    refine own_st st175 ?_
                    show own_Go _ _ _ _ (T175.setTop (mkF m 68 #[.val (.ref ob), .val (.long (u0 + u1)), .second] [(.long (u0 + (28500000000 : Int64))), (.ref ob)]))
                    refine own_st (fun _ k => XS.aloadN X175.here hx rfl (hb hby d4_68) rfl rfl k) ?_
                    show own_Go _ _ _ _ (T175.setTop (mkF m 69 #[.val (.ref ob), .val (.long (u0 + u1)), .second] [(.ref ob), (.long (u0 + (28500000000 : Int64))), (.ref ob)]))
                    obtain ⟨T176, X176, e176, st176⟩ := getF X175 hx hZ hown (host := "") (Or.inl (hw _ (List.mem_of_getElem? (i := 11) rfl))) Via.refl e175 Fw174 (g := (mkF m 69 #[.val (.ref ob), .val (.long (u0 + u1)), .second] [(.ref ob), (.long (u0 + (28500000000 : Int64))), (.ref ob)])) rfl rfl (hb hby d4_69)
                    refine own_st st176 ?_
                    show own_Go _ _ _ _ (T176.setTop (mkF m 72 #[.val (.ref ob), .val (.long (u0 + u1)), .second] [(.long (4000000000 : Int64)), (.long (u0 + (28500000000 : Int64))), (.ref ob)]))
                    refine own_st (fun _ k => XS.ladd X176.here hx rfl (hb hby d4_72) rfl k) ?_
                    rw [show ((u0 + (28500000000 : Int64)) + (4000000000 : Int64)) = (u0 + (32500000000 : Int64)) from by rw [Int64.add_assoc, show (28500000000 : Int64) + (4000000000 : Int64) = (32500000000 : Int64) from by decide]]
                    show own_Go _ _ _ _ (T176.setTop (mkF m 73 #[.val (.ref ob), .val (.long (u0 + u1)), .second] [(.long (u0 + (32500000000 : Int64))), (.ref ob)]))
                    obtain ⟨T177, h177, X177, e177, W177, st177⟩ := putF X176 hx hZ hown (host := "") (Or.inl (hw _ (List.mem_of_getElem? (i := 16) rfl))) Via.refl e176 y174_F_ob_next y174_E_ob (Or.inl (hw _ (List.mem_of_getElem? (i := 17) rfl))) (hw _ (List.mem_of_getElem? (i := 2) rfl)) (ty := .long) (by decide) rfl rfl (g := (mkF m 73 #[.val (.ref ob), .val (.long (u0 + u1)), .second] [(.long (u0 + (32500000000 : Int64))), (.ref ob)])) rfl rfl (hb hby d4_73)
                    refine own_st st177 ?_
                    have Fw177 : Fld Z h177 ob "com/example/troskel/troskel/service/RetransmissionTimer" "next" "J" (.long (u0 + (32500000000 : Int64))) := y174_F_ob_next.same W177
                    have y177_E_ob := y174_E_ob.wr W177
                    have y177_F_ob_interval := Fw174.other W177 (Or.inr (slot_ne (Or.inl (hw _ (List.mem_of_getElem? (i := 12) rfl))) (Or.inl (hw _ (List.mem_of_getElem? (i := 17) rfl))) (by decide) (t := .long) (t' := .long) (by decide) (by decide)))
                    have y177_F_ob_timeoutAt := y174_F_ob_timeoutAt.other W177 (Or.inr (slot_ne (Or.inr (hw _ (List.mem_of_getElem? (i := 15) rfl))) (Or.inl (hw _ (List.mem_of_getElem? (i := 17) rfl))) (by decide) (t := .long) (t' := .long) (by decide) (by decide)))
                    have y177_F_ob_proceeding := y174_F_ob_proceeding.other W177 (Or.inr (slot_ne (Or.inl (hw _ (List.mem_of_getElem? (i := 44) rfl))) (Or.inl (hw _ (List.mem_of_getElem? (i := 17) rfl))) (by decide) (t := .boolean) (t' := .long) (by decide) (by decide)))
                    have Z177 : n0 ≤ h177.size := Nat.le_trans Z174 (Nat.le_of_eq W177.size.symm)
                    have N177 := Fr.snoc X177 N174 gnob
                    have K177 : Keep h0 h177 [ob] := K174.wr W177 (Or.inl (by simp))
                    show own_Go _ _ _ _ (T177.setTop (mkF m 76 #[.val (.ref ob), .val (.long (u0 + u1)), .second] []))
                    refine own_st (fun _ k => XS.goto X177.here hx rfl (pc0 := 76) (pc' := 21) rfl (hb hby d4_76) (by decide) (by decide) k) ?_
                    show own_Go _ _ _ _ (T177.setTop (mkF m 21 #[.val (.ref ob), .val (.long (u0 + u1)), .second] []))
                    refine own_st (fun _ k => XS.lloadN X177.here hx rfl (hb hby d4_21) rfl k) ?_
                    show own_Go _ _ _ _ (T177.setTop (mkF m 22 #[.val (.ref ob), .val (.long (u0 + u1)), .second] [(.long (u0 + u1))]))
                    refine own_st (fun _ k => XS.aloadN X177.here hx rfl (hb hby d4_22) rfl rfl k) ?_
                    show own_Go _ _ _ _ (T177.setTop (mkF m 23 #[.val (.ref ob), .val (.long (u0 + u1)), .second] [(.ref ob), (.long (u0 + u1))]))
                    obtain ⟨T178, X178, e178, st178⟩ := getF X177 hx hZ hown (host := "") (Or.inl (hw _ (List.mem_of_getElem? (i := 16) rfl))) Via.refl e177 Fw177 (g := (mkF m 23 #[.val (.ref ob), .val (.long (u0 + u1)), .second] [(.ref ob), (.long (u0 + u1))])) rfl rfl (hb hby d4_23)
                    refine own_st st178 ?_
                    show own_Go _ _ _ _ (T178.setTop (mkF m 26 #[.val (.ref ob), .val (.long (u0 + u1)), .second] [(.long (u0 + (32500000000 : Int64))), (.long (u0 + u1))]))
                    refine own_st (fun _ k => XS.lsub X178.here hx rfl (hb hby d4_26) rfl k) ?_
                    show own_Go _ _ _ _ (T178.setTop (mkF m 27 #[.val (.ref ob), .val (.long (u0 + u1)), .second] [(.long ((u0 + u1) - (u0 + (32500000000 : Int64))))]))
                    refine own_st (fun _ k => XS.lconst X178.here hx rfl (hb hby d4_27) k) ?_
                    show own_Go _ _ _ _ (T178.setTop (mkF m 28 #[.val (.ref ob), .val (.long (u0 + u1)), .second] [(.long (0 : Int64)), (.long ((u0 + u1) - (u0 + (32500000000 : Int64))))]))
                    refine own_st (fun _ k => XS.lcmp X178.here hx rfl (hb hby d4_28) rfl k) ?_
                    show own_Go _ _ _ _ (T178.setTop (mkF m 29 #[.val (.ref ob), .val (.long (u0 + u1)), .second] [(.int (lcmpW ((u0 + u1) - (u0 + (32500000000 : Int64))) (0 : Int64)))]))
                    refine own_st (fun _ k => XS.ifYes X178.here hx rfl (pc0 := 29) (pc' := 79) rfl (hb hby d4_29) rfl ((if0 _ _).trans (tlt ((own_lt u0 u1 (32500000000 : Int64) hk (by decide)).mpr (by have q := (own_toz u0 u1 hk).mp hc120; simp only [Int64.reduceToInt]; omega))).1) (by decide) (by decide) k) ?_
                    show own_Go _ _ _ _ (T178.setTop (mkF m 79 #[.val (.ref ob), .val (.long (u0 + u1)), .second] []))
                    refine own_st (fun _ k => XS.iconst X178.here hx rfl (hb hby d4_79) k) ?_
                    show own_Go _ _ _ _ (T178.setTop (mkF m 80 #[.val (.ref ob), .val (.long (u0 + u1)), .second] [(.int (1 : Int32))]))
                    obtain ⟨fs, hr, hrun, hended, hW, hsame⟩ := X178.leave (v := some (.int (1 : Int32))) (fun h => by rw [Bd.returns] at h; cases h)
                    refine own_out (retN X178 hx (t := .boolean) Bd.returns (by simp) (hb hby d4_80) hr) ⟨hrun, hended, _, _, rfl, ?_, ⟨_, rfl⟩, hW, hsame.mono (by decide) (by decide)⟩
                    show Q4_1 Z ob u0 u1 h0 n0 _ T178.heap _
                    have hv : own_nx1 u0 u1 = (u0 + (32500000000 : Int64)) := by
                      unfold own_nx1
                      rw [if_pos hc120, if_neg hc122, if_neg hc130, if_neg hc137, if_neg hc144, if_neg hc151, if_neg hc158, if_neg hc165, if_neg hc172]
                    rw [e178]
                    exact ⟨_, rfl, N177, K177, y177_E_ob, by rw [hv]; exact Fw177, y177_F_ob_timeoutAt⟩
  · skip
    refine own_st (fun _ k => XS.ifYes X119.here hx rfl (pc0 := 5) (pc' := 19) rfl (hb hby d4_5) rfl ((if0 _ _).trans (feq hc120).2) (by decide) (by decide) k) ?_
    show own_Go _ _ _ _ (T119.setTop (mkF m 19 #[.val (.ref ob), .val (.long (u0 + u1)), .second] []))
    refine own_st (fun _ k => XS.iconst X119.here hx rfl (hb hby d4_19) k) ?_
    show own_Go _ _ _ _ (T119.setTop (mkF m 20 #[.val (.ref ob), .val (.long (u0 + u1)), .second] [(.int (0 : Int32))]))
    obtain ⟨fs, hr, hrun, hended, hW, hsame⟩ := X119.leave (v := some (.int (0 : Int32))) (fun h => by rw [Bd.returns] at h; cases h)
    refine own_out (retN X119 hx (t := .boolean) Bd.returns (by simp) (hb hby d4_20) hr) ⟨hrun, hended, _, _, rfl, ?_, ⟨_, rfl⟩, hW, hsame.mono (by decide) (by decide)⟩
    show Q4_1 Z ob u0 u1 h0 n0 _ T119.heap _
    have hv : own_nx1 u0 u1 = (u0 + (500000000 : Int64)) := by
      unfold own_nx1
      rw [if_neg hc120]
    rw [eq119]
    exact ⟨_, rfl, N119, K0, E_ob, by rw [hv]; exact F_next, F_timeoutAt⟩
theorem own_mni (a b : Int64) : (own_mn a b).toInt = if b.toInt < a.toInt then b.toInt else a.toInt := by
  unfold own_mn
  simp only [lw_gt, Int64.lt_iff_toInt_lt]
  split <;> rfl
theorem own_pt (k a : Int64) (ha : 0 ≤ a.toInt ∧ a.toInt ≤ 8000000000) (hk : a.toInt ≤ k.toInt ∧ k.toInt < 40000000000) : (a + ((4000000000 : Int64) * (((k - a) / (4000000000 : Int64)) + (1 : Int64)))).toInt = a.toInt + 4000000000 * ((k.toInt - a.toInt) / 4000000000 + 1) := by
  have s1 := c_lsub k a
  have r1 := rng64 (k - a)
  have e1 : (k - a).toInt = k.toInt - a.toInt := by omega
  have d := (c_ldiv (k - a) (4000000000 : Int64) 4000000000 (by decide) (by decide)).1 (by omega)
  rw [e1] at d
  have s2 := c_ladd ((k - a) / (4000000000 : Int64)) 1
  have r2 := rng64 (((k - a) / (4000000000 : Int64)) + 1)
  have s3 := c_lmul (4000000000 : Int64) (((k - a) / (4000000000 : Int64)) + 1)
  have r3 := rng64 ((4000000000 : Int64) * (((k - a) / (4000000000 : Int64)) + 1))
  have s4 := c_ladd a ((4000000000 : Int64) * (((k - a) / (4000000000 : Int64)) + 1))
  have r4 := rng64 (a + ((4000000000 : Int64) * (((k - a) / (4000000000 : Int64)) + 1)))
  simp only [Int64.reduceToInt] at s2 s3
  omega
theorem own_eo_r0 (k : Int64) (hk : own_rg k) : (own_eo k (0 : Int32)).toInt = if k.toInt < 500000000 then 500000000 else if k.toInt < 32000000000 then (if k.toInt < 1500000000 then 1500000000 else if k.toInt < 3500000000 then 3500000000 else if k.toInt < 7500000000 then 7500000000 else if 32000000000 < 7500000000 + 4000000000 * ((k.toInt - 7500000000) / 4000000000 + 1) then 32000000000 else 7500000000 + 4000000000 * ((k.toInt - 7500000000) / 4000000000 + 1)) else 500000000 := by
  unfold own_rg at hk
  unfold own_eo
  simp only [lw_lt, Int64.lt_iff_toInt_lt, Int64.reduceToInt]
  by_cases c1 : k.toInt < 500000000
  · rw [if_pos c1, if_pos c1]; rfl
  rw [if_neg c1, if_neg c1]
  by_cases c2 : k.toInt < 32000000000
  case neg => rw [if_neg c2, if_neg c2]; rfl
  rw [if_pos c2, if_pos c2, if_pos trivial]
  by_cases c3 : k.toInt < 1500000000
  · rw [if_pos c3, if_pos c3]; rfl
  rw [if_neg c3, if_neg c3]
  by_cases c4 : k.toInt < 3500000000
  · rw [if_pos c4, if_pos c4]; rfl
  rw [if_neg c4, if_neg c4]
  by_cases c5 : k.toInt < 7500000000
  · rw [if_pos c5, if_pos c5]; rfl
  rw [if_neg c5, if_neg c5, own_mni, own_pt k _ (by decide) (by simp only [Int64.reduceToInt]; omega)]
  rfl
theorem own_eo_r1 (k : Int64) (hk : own_rg k) : (own_eo k (1 : Int32)).toInt = if k.toInt < 500000000 then 500000000 else if k.toInt < 32000000000 then (if 32000000000 < 500000000 + 4000000000 * ((k.toInt - 500000000) / 4000000000 + 1) then 32000000000 else 500000000 + 4000000000 * ((k.toInt - 500000000) / 4000000000 + 1)) else 500000000 := by
  unfold own_rg at hk
  unfold own_eo
  simp only [lw_lt, Int64.lt_iff_toInt_lt, Int64.reduceToInt]
  by_cases c1 : k.toInt < 500000000
  · rw [if_pos c1, if_pos c1]; rfl
  rw [if_neg c1, if_neg c1]
  by_cases c2 : k.toInt < 32000000000
  case neg => rw [if_neg c2, if_neg c2]; rfl
  rw [if_pos c2, if_pos c2, if_neg (by decide), own_mni, own_pt k _ (by decide) (by simp only [Int64.reduceToInt]; omega)]
  rfl
theorem own_hd (s d : Int64) (h : own_rg d) : own_due (s + d) (s + (32000000000 : Int64)) = s + (if d.toInt < 32000000000 then d else (32000000000 : Int64)) := by
  unfold own_due
  have q := own_lt s d 32000000000 h (by decide)
  simp only [Int64.reduceToInt] at q
  by_cases c : d.toInt < 32000000000
  · rw [if_pos (q.mpr c), if_pos c]
  · rw [if_neg (fun z => c (q.mp z)), if_neg c]
theorem own_first (s : Int64) : (lcmpW (own_due (s + (500000000 : Int64)) (s + (32000000000 : Int64))) (s + (500000000 : Int64))) = (0 : Int32) := by
  rw [lw_eq, own_hd s _ (by unfold own_rg; decide), if_pos (by decide)]
theorem own_krg (u : Int64) : own_rg (u - (u / (40000000000 : Int64)) * (40000000000 : Int64)) := by
  have q := c_lrem u (40000000000 : Int64) 40000000000 (by decide)
  unfold own_rg
  by_cases c : 0 ≤ u.toInt
  · rw [q.1 c]; omega
  · rw [q.2 (by omega)]; omega
set_option maxHeartbeats 4000000 in
theorem own_fin0 (s k : Int64) (hk : own_rg k) : (lcmpW (own_due (own_nx0 s k) (s + (32000000000 : Int64))) (s + (own_eo k (0 : Int32)))) = (0 : Int32) := by
  rw [lw_eq]
  have ht := own_toz s k hk
  have L0 : (lcmpW ((s + k) - (s + (500000000 : Int64))) (0 : Int64)) < (0 : Int32) ↔ k.toInt < 500000000 := own_lt s k (500000000 : Int64) hk (by decide)
  have L1 : (lcmpW ((s + k) - (s + (1500000000 : Int64))) (0 : Int64)) < (0 : Int32) ↔ k.toInt < 1500000000 := own_lt s k (1500000000 : Int64) hk (by decide)
  have L2 : (lcmpW ((s + k) - (s + (3500000000 : Int64))) (0 : Int64)) < (0 : Int32) ↔ k.toInt < 3500000000 := own_lt s k (3500000000 : Int64) hk (by decide)
  have L3 : (lcmpW ((s + k) - (s + (7500000000 : Int64))) (0 : Int64)) < (0 : Int32) ↔ k.toInt < 7500000000 := own_lt s k (7500000000 : Int64) hk (by decide)
  have L4 : (lcmpW ((s + k) - (s + (11500000000 : Int64))) (0 : Int64)) < (0 : Int32) ↔ k.toInt < 11500000000 := own_lt s k (11500000000 : Int64) hk (by decide)
  have L5 : (lcmpW ((s + k) - (s + (15500000000 : Int64))) (0 : Int64)) < (0 : Int32) ↔ k.toInt < 15500000000 := own_lt s k (15500000000 : Int64) hk (by decide)
  have L6 : (lcmpW ((s + k) - (s + (19500000000 : Int64))) (0 : Int64)) < (0 : Int32) ↔ k.toInt < 19500000000 := own_lt s k (19500000000 : Int64) hk (by decide)
  have L7 : (lcmpW ((s + k) - (s + (23500000000 : Int64))) (0 : Int64)) < (0 : Int32) ↔ k.toInt < 23500000000 := own_lt s k (23500000000 : Int64) hk (by decide)
  have L8 : (lcmpW ((s + k) - (s + (27500000000 : Int64))) (0 : Int64)) < (0 : Int32) ↔ k.toInt < 27500000000 := own_lt s k (27500000000 : Int64) hk (by decide)
  have L9 : (lcmpW ((s + k) - (s + (31500000000 : Int64))) (0 : Int64)) < (0 : Int32) ↔ k.toInt < 31500000000 := own_lt s k (31500000000 : Int64) hk (by decide)
  have er := own_eo_r0 k hk
  generalize own_eo k (0 : Int32) = E at *
  unfold own_nx0
  simp only [ht, L0, L1, L2, L3, L4, L5, L6, L7, L8, L9]
  repeat' split
  all_goals
    rw [own_hd s _ (by unfold own_rg; decide)]
    first | rw [if_pos (by decide)] | rw [if_neg (by decide)]
    congr 1
    apply Int64.toInt_inj.mp
    rw [er]
    simp only [Int64.reduceToInt]
    (repeat' split) <;> omega
set_option maxHeartbeats 4000000 in
theorem own_fin1 (s k : Int64) (hk : own_rg k) : (lcmpW (own_due (own_nx1 s k) (s + (32000000000 : Int64))) (s + (own_eo k (1 : Int32)))) = (0 : Int32) := by
  rw [lw_eq]
  have ht := own_toz s k hk
  have L0 : (lcmpW ((s + k) - (s + (500000000 : Int64))) (0 : Int64)) < (0 : Int32) ↔ k.toInt < 500000000 := own_lt s k (500000000 : Int64) hk (by decide)
  have L1 : (lcmpW ((s + k) - (s + (4500000000 : Int64))) (0 : Int64)) < (0 : Int32) ↔ k.toInt < 4500000000 := own_lt s k (4500000000 : Int64) hk (by decide)
  have L2 : (lcmpW ((s + k) - (s + (8500000000 : Int64))) (0 : Int64)) < (0 : Int32) ↔ k.toInt < 8500000000 := own_lt s k (8500000000 : Int64) hk (by decide)
  have L3 : (lcmpW ((s + k) - (s + (12500000000 : Int64))) (0 : Int64)) < (0 : Int32) ↔ k.toInt < 12500000000 := own_lt s k (12500000000 : Int64) hk (by decide)
  have L4 : (lcmpW ((s + k) - (s + (16500000000 : Int64))) (0 : Int64)) < (0 : Int32) ↔ k.toInt < 16500000000 := own_lt s k (16500000000 : Int64) hk (by decide)
  have L5 : (lcmpW ((s + k) - (s + (20500000000 : Int64))) (0 : Int64)) < (0 : Int32) ↔ k.toInt < 20500000000 := own_lt s k (20500000000 : Int64) hk (by decide)
  have L6 : (lcmpW ((s + k) - (s + (24500000000 : Int64))) (0 : Int64)) < (0 : Int32) ↔ k.toInt < 24500000000 := own_lt s k (24500000000 : Int64) hk (by decide)
  have L7 : (lcmpW ((s + k) - (s + (28500000000 : Int64))) (0 : Int64)) < (0 : Int32) ↔ k.toInt < 28500000000 := own_lt s k (28500000000 : Int64) hk (by decide)
  have er := own_eo_r1 k hk
  generalize own_eo k (1 : Int32) = E at *
  unfold own_nx1
  simp only [ht, L0, L1, L2, L3, L4, L5, L6, L7]
  repeat' split
  all_goals
    rw [own_hd s _ (by unfold own_rg; decide)]
    first | rw [if_pos (by decide)] | rw [if_neg (by decide)]
    congr 1
    apply Int64.toInt_inj.mp
    rw [er]
    simp only [Int64.reduceToInt]
    (repeat' split) <;> omega
theorem own_pd6 : parseMethodDescriptor "(JJI)Z" = some ⟨[.long, .long, .int], some .boolean⟩ := by decide +kernel
def Q0 (Z : State) (u0 : Int64) (u1 : Int64) (u2 : Int32) (h0 : Heap) (n0 : Nat) (v : Option Value) (h : Heap) (L : List Loc) : Prop := v = some (.int 1) ∧ Fr n0 L
theorem ef_0 (m : MethodId) (x0 : Int64) (x1 : Int64) (x2 : Int32) : entryFrame m #[(.long x0), (.long x1), (.int x2)] maxLocals = mkF m 0 #[.val (.long x0), .second, .val (.long x1), .second, .val (.int x2), .unset, .unset, .unset, .unset, .unset, .unset, .unset] [] := by first | (simp [entryFrame, mkF, argsToLocals, Value.category, maxLocals]; done) | rfl
set_option maxRecDepth 65536 in
set_option maxHeartbeats 40000000 in
theorem rm0 (l : Launch) (Z : State) (a0 : Array Value) (hw : ∀ d ∈ tables_1, d.before a0 Z = true) (ws : List Jvm.Cond) (u0 : Int64) (u1 : Int64) (u2 : Int32) (h0 : Heap) (n0 : Nat) (Z0 : n0 ≤ h0.size)  :
    MetFree l x (head1 (Jvm.Cond.code x code maxLocals ret :: ws) room_1) (fun a U => a = #[(.long u0), (.long u1), (.int u2)] ∧ Z.Warmed39 U.vm ∧ U.heap = h0) (fun _ _ _ _ _ => True) (fun _ U o U' => ∃ v L, o = .returned v ∧ Q0 Z u0 u1 u2 h0 n0 v U'.heap L ∧ FrameEnd U o U' L 16 128) := by
  refine MetFree.of_bodySF (plainFor_of_name own_pn1) hisR ?_
  intro p e s m args below meth c s₁ Bd hml0 hP hK
  obtain ⟨rfl, hZ, hh⟩ := hP
  have hx := Bd.exec
  have hby := Bd.bytes
  have hml : c.maxLocals = 12 := hml0
  have hown : s.vm.findClass "com/example/troskel/troskel/service/RetransmissionTimerDueNanosPinLaw" = some m.cls := findClass_of_methodNamed Bd.named
  have hnm := (name_of_methodNamed Bd.named Bd.method).1
  have X0 : Stand p l e room_1 s m #[(.long u0), (.long u1), (.int u2)] below meth c s₁ [] 0 0 := Stand.of_body Bd
  have e0 : s₁.heap = h0 := by rw [← hh, Bd.state]; rfl
  have N0 := Fr.nil n0
  refine own_in ?_
  refine own_st (fun _ k => castTop (ef_0 m u0 u1 u2) k) ?_
  have K0 : Keep h0 h0 [] := Keep.refl h0 []
  show own_Go _ _ _ _ (s₁.setTop (mkF m 0 #[.val (.long u0), .second, .val (.long u1), .second, .val (.int u2), .unset, .unset, .unset, .unset, .unset, .unset, .unset] []))
  refine own_st (fun _ k => XS.iload X0.here hx rfl (hb hby at_0) rfl k) ?_
  show own_Go _ _ _ _ (s₁.setTop (mkF m 2 #[.val (.long u0), .second, .val (.long u1), .second, .val (.int u2), .unset, .unset, .unset, .unset, .unset, .unset, .unset] [(.int u2)]))
  refine own_st (fun _ k => XS.iconst X0.here hx rfl (hb hby at_2) k) ?_
  show own_Go _ _ _ _ (s₁.setTop (mkF m 3 #[.val (.long u0), .second, .val (.long u1), .second, .val (.int u2), .unset, .unset, .unset, .unset, .unset, .unset, .unset] [(.int (1 : Int32)), (.int u2)]))
  refine own_st (fun _ k => XS.iand X0.here hx rfl (hb hby at_3) rfl k) ?_
  show own_Go _ _ _ _ (s₁.setTop (mkF m 4 #[.val (.long u0), .second, .val (.long u1), .second, .val (.int u2), .unset, .unset, .unset, .unset, .unset, .unset, .unset] [(.int (u2 &&& (1 : Int32)))]))
  by_cases hc179 : (u2 &&& (1 : Int32)) = (0 : Int32)
  · skip
    refine own_st (fun _ k => XS.ifYes X0.here hx rfl (pc0 := 4) (pc' := 11) rfl (hb hby at_4) rfl ((if0 _ _).trans (teq hc179).1) (by decide) (by decide) k) ?_
    show own_Go _ _ _ _ (s₁.setTop (mkF m 11 #[.val (.long u0), .second, .val (.long u1), .second, .val (.int u2), .unset, .unset, .unset, .unset, .unset, .unset, .unset] []))
    refine own_st (fun _ k => XS.iconst X0.here hx rfl (hb hby at_11) k) ?_
    show own_Go _ _ _ _ (s₁.setTop (mkF m 12 #[.val (.long u0), .second, .val (.long u1), .second, .val (.int u2), .unset, .unset, .unset, .unset, .unset, .unset, .unset] [(.int (0 : Int32))]))
    refine own_st (fun _ k => XS.istore X0.here hx rfl (hb hby at_12) rfl (l' := #[.val (.long u0), .second, .val (.long u1), .second, .val (.int u2), .val (.int (0 : Int32)), .unset, .unset, .unset, .unset, .unset, .unset]) rfl k) ?_
    show own_Go _ _ _ _ (s₁.setTop (mkF m 14 #[.val (.long u0), .second, .val (.long u1), .second, .val (.int u2), .val (.int (0 : Int32)), .unset, .unset, .unset, .unset, .unset, .unset] []))
    refine own_st (fun _ k => XS.lloadN X0.here hx rfl (hb hby at_14) rfl k) ?_
    show own_Go _ _ _ _ (s₁.setTop (mkF m 15 #[.val (.long u0), .second, .val (.long u1), .second, .val (.int u2), .val (.int (0 : Int32)), .unset, .unset, .unset, .unset, .unset, .unset] [(.long u1)]))
    refine own_st (fun _ k => X0.ldc2Long hx hown (mvT hZ (hw _ (List.mem_of_getElem? (i := 0) rfl))) (g := (mkF m 15 #[.val (.long u0), .second, .val (.long u1), .second, .val (.int u2), .val (.int (0 : Int32)), .unset, .unset, .unset, .unset, .unset, .unset] [(.long u1)])) rfl (hb hby at_15) _ k) ?_
    show own_Go _ _ _ _ (s₁.setTop (mkF m 18 #[.val (.long u0), .second, .val (.long u1), .second, .val (.int u2), .val (.int (0 : Int32)), .unset, .unset, .unset, .unset, .unset, .unset] [(.long (40000000000 : Int64)), (.long u1)]))
    refine own_st (fun _ k => XS.lrem X0.here hx rfl (hb hby at_18) rfl (by decide : ¬ ((40000000000 : Int64) = (0 : Int64))) k) ?_
    show own_Go _ _ _ _ (s₁.setTop (mkF m 19 #[.val (.long u0), .second, .val (.long u1), .second, .val (.int u2), .val (.int (0 : Int32)), .unset, .unset, .unset, .unset, .unset, .unset] [(.long (u1 - (u1 / (40000000000 : Int64)) * (40000000000 : Int64)))]))
    refine own_st (fun _ k => XS.lstore X0.here hx rfl (hb hby at_19) rfl (l' := #[.val (.long u0), .second, .val (.long u1), .second, .val (.int u2), .val (.int (0 : Int32)), .val (.long (u1 - (u1 / (40000000000 : Int64)) * (40000000000 : Int64))), .second, .unset, .unset, .unset, .unset]) rfl k) ?_
    show own_Go _ _ _ _ (s₁.setTop (mkF m 21 #[.val (.long u0), .second, .val (.long u1), .second, .val (.int u2), .val (.int (0 : Int32)), .val (.long (u1 - (u1 / (40000000000 : Int64)) * (40000000000 : Int64))), .second, .unset, .unset, .unset, .unset] []))
    have hk : own_rg (u1 - (u1 / (40000000000 : Int64)) * (40000000000 : Int64)) := own_krg u1
    obtain ⟨T180, h180, X180, e180, E180, A180, D180, -, st180⟩ := newO X0 hx hZ hown (hw _ (List.mem_of_getElem? (i := 1) rfl)) (hw _ (List.mem_of_getElem? (i := 2) rfl)) (hw _ (List.mem_of_getElem? (i := 3) rfl)) e0 (g := (mkF m 21 #[.val (.long u0), .second, .val (.long u1), .second, .val (.int u2), .val (.int (0 : Int32)), .val (.long (u1 - (u1 / (40000000000 : Int64)) * (40000000000 : Int64))), .second, .unset, .unset, .unset, .unset] [])) rfl (hb hby at_21) (by decide) (by decide)
    obtain ⟨b180, g180⟩ : ∃ z, z = h0.size := ⟨_, rfl⟩
    rw [← g180] at A180 D180 st180
    refine own_st st180 ?_
    have Z180 : n0 ≤ h180.size := Nat.le_trans Z0 E180.1
    have gnb180 : n0 ≤ b180 := Nat.le_trans Z0 (Nat.le_of_eq g180.symm)
    have gkb180 : h0.size ≤ b180 := Nat.le_trans K0.1 (Nat.le_of_eq g180.symm)
    have K180 : Keep h0 h180 [] := K0.ext E180
    have F180_interval : Fld Z h180 b180 "com/example/troskel/troskel/service/RetransmissionTimer" "interval" "J" (.long (0 : Int64)) := D180 (Or.inl (hw _ (List.mem_of_getElem? (i := 12) rfl))) (ty := .long) (by decide)
    have F180_timeoutAt : Fld Z h180 b180 "com/example/troskel/troskel/service/RetransmissionTimer" "timeoutAt" "J" (.long (0 : Int64)) := D180 (Or.inr (hw _ (List.mem_of_getElem? (i := 15) rfl))) (ty := .long) (by decide)
    have F180_next : Fld Z h180 b180 "com/example/troskel/troskel/service/RetransmissionTimer" "next" "J" (.long (0 : Int64)) := D180 (Or.inl (hw _ (List.mem_of_getElem? (i := 17) rfl))) (ty := .long) (by decide)
    have F180_proceeding : Fld Z h180 b180 "com/example/troskel/troskel/service/RetransmissionTimer" "proceeding" "Z" (.int (0 : Int32)) := D180 (Or.inl (hw _ (List.mem_of_getElem? (i := 44) rfl))) (ty := .boolean) (by decide)
    show own_Go _ _ _ _ (T180.setTop (mkF m 24 #[.val (.long u0), .second, .val (.long u1), .second, .val (.int u2), .val (.int (0 : Int32)), .val (.long (u1 - (u1 / (40000000000 : Int64)) * (40000000000 : Int64))), .second, .unset, .unset, .unset, .unset] [(.ref b180)]))
    refine own_st (fun _ k => XS.dup X180.here hx rfl (hb hby at_24) rfl rfl k) ?_
    show own_Go _ _ _ _ (T180.setTop (mkF m 25 #[.val (.long u0), .second, .val (.long u1), .second, .val (.int u2), .val (.int (0 : Int32)), .val (.long (u1 - (u1 / (40000000000 : Int64)) * (40000000000 : Int64))), .second, .unset, .unset, .unset, .unset] [(.ref b180), (.ref b180)]))
    refine own_st (fun _ k => XS.lloadN X180.here hx rfl (hb hby at_25) rfl k) ?_
    show own_Go _ _ _ _ (T180.setTop (mkF m 26 #[.val (.long u0), .second, .val (.long u1), .second, .val (.int u2), .val (.int (0 : Int32)), .val (.long (u1 - (u1 / (40000000000 : Int64)) * (40000000000 : Int64))), .second, .unset, .unset, .unset, .unset] [(.long u0), (.ref b180), (.ref b180)]))
    obtain ⟨_, _, ⟨T181, L181, k181, n181⟩, -, X181, ⟨Lc181, hQ181, l181, y181, z181⟩, st181⟩ := X180.specialBack hx (y := (⟨"com/example/troskel/troskel/service/RetransmissionTimer", "<init>", "(J)V"⟩ : MethodName)) rfl hown (mvT hZ (hw _ (List.mem_of_getElem? (i := 4) rfl))) (mvT hZ (hw _ (List.mem_of_getElem? (i := 5) rfl))) (mvT hZ (hw _ (List.mem_of_getElem? (i := 6) rfl))) (by decide) (backOf (W := 1) (rm1 l Z a0 hw [] b180 u0 (.long (0 : Int64)) (.long (0 : Int64)) (.long (0 : Int64)) (.int (0 : Int32)) h180 n0 Z180 A180 gnb180 F180_interval F180_timeoutAt F180_next F180_proceeding ) hZ (hw _ (List.mem_of_getElem? (i := 6) rfl)) (hw _ (List.mem_of_getElem? (i := 3) rfl)) (by decide) (by decide)) (g := (mkF m 26 #[.val (.long u0), .second, .val (.long u1), .second, .val (.int u2), .val (.int (0 : Int32)), .val (.long (u1 - (u1 / (40000000000 : Int64)) * (40000000000 : Int64))), .second, .unset, .unset, .unset, .unset] [(.long u0), (.ref b180), (.ref b180)])) rfl (by rw [hml]; rfl) (Steps.refl _) (a := b180) (argsL := [(.long u0)]) (rest := [(.ref b180)]) (lenOf own_pd1 rfl) rfl (by show 2 * 0 + _ ≤ _; exact Nat.le_of_eq rfl) (hb hby at_26) (fun _ _ => ⟨rfl, e180, (by decide : 1 + 0 ≤ _), (by decide : 4 + 0 ≤ _)⟩)
    dsimp only [Pt.U, Pt.locs, Pt.cells, Pt.slots] at X181 l181 y181 z181 st181 hQ181
    rw [l181, y181, z181] at X181
    obtain ⟨rfl, Nq181, Kq181, Eq181, Fq181_interval, Fq181_timeoutAt, Fq181_next, Fq181_proceeding⟩ := hQ181
    have N181 := Fr.app N0 Nq181
    refine own_tr st181 ?_
    have z181_E_b180 := A180.keep Kq181
    have Z181 : n0 ≤ T181.heap.size := Nat.le_trans Z180 Kq181.1
    have Kk181 : Keep h0 T181.heap [] := K180.trans Kq181 (allS (Or.inr gkb180) all0)
    show own_Go _ _ _ _ (T181.setTop (mkF m 29 #[.val (.long u0), .second, .val (.long u1), .second, .val (.int u2), .val (.int (0 : Int32)), .val (.long (u1 - (u1 / (40000000000 : Int64)) * (40000000000 : Int64))), .second, .unset, .unset, .unset, .unset] [(.ref b180)]))
    refine own_st (fun _ k => XS.astore X181.here hx rfl (hb hby at_29) rfl rfl (l' := #[.val (.long u0), .second, .val (.long u1), .second, .val (.int u2), .val (.int (0 : Int32)), .val (.long (u1 - (u1 / (40000000000 : Int64)) * (40000000000 : Int64))), .second, .val (.ref b180), .unset, .unset, .unset]) rfl k) ?_
    show own_Go _ _ _ _ (T181.setTop (mkF m 31 #[.val (.long u0), .second, .val (.long u1), .second, .val (.int u2), .val (.int (0 : Int32)), .val (.long (u1 - (u1 / (40000000000 : Int64)) * (40000000000 : Int64))), .second, .val (.ref b180), .unset, .unset, .unset] []))
    refine own_st (fun _ k => XS.aload X181.here hx rfl (hb hby at_31) rfl rfl k) ?_
    show own_Go _ _ _ _ (T181.setTop (mkF m 33 #[.val (.long u0), .second, .val (.long u1), .second, .val (.int u2), .val (.int (0 : Int32)), .val (.long (u1 - (u1 / (40000000000 : Int64)) * (40000000000 : Int64))), .second, .val (.ref b180), .unset, .unset, .unset] [(.ref b180)]))
    obtain ⟨cq182, kq182, q182a, q182b, q182c⟩ := isOf hZ rfl z181_E_b180
    obtain ⟨_, _, ⟨T182, L182, k182, n182⟩, -, X182, ⟨Lc182, hQ182, l182, y182, z182⟩, st182⟩ := X181.virtualBack hx (y := (⟨"com/example/troskel/troskel/service/RetransmissionTimer", "dueNanos", "()J"⟩ : MethodName)) (z := (⟨"com/example/troskel/troskel/service/RetransmissionTimer", "dueNanos", "()J"⟩ : MethodName)) hown (mvT hZ (hw _ (List.mem_of_getElem? (i := 18) rfl))) (mvT hZ (hw _ (List.mem_of_getElem? (i := 19) rfl))) (notFace_of_selects (args := #[]) (mvT hZ (hw _ (List.mem_of_getElem? (i := 21) rfl)))) (mvT hZ (hw _ (List.mem_of_getElem? (i := 21) rfl))) (mvT hZ (hw _ (List.mem_of_getElem? (i := 20) rfl))) (by decide) (backOf (W := 0) (rm3 l Z a0 hw [] b180  (u0 + (500000000 : Int64)) (u0 + (32000000000 : Int64)) T181.heap n0 Z181 Fq181_next Fq181_timeoutAt ) hZ (hw _ (List.mem_of_getElem? (i := 22) rfl)) (hw _ (List.mem_of_getElem? (i := 3) rfl)) (by decide) (by decide)) q182a q182c (g := (mkF m 33 #[.val (.long u0), .second, .val (.long u1), .second, .val (.int u2), .val (.int (0 : Int32)), .val (.long (u1 - (u1 / (40000000000 : Int64)) * (40000000000 : Int64))), .second, .val (.ref b180), .unset, .unset, .unset] [(.ref b180)])) rfl (by rw [hml]; rfl) (Steps.refl _) (argsL := []) (rest := []) (lenOf own_pd3 rfl) rfl (by show 2 * 0 + _ ≤ _; exact Nat.le_of_eq rfl) (hb hby at_33) (fun _ _ => ⟨rfl, rfl, (by decide : 1 + 0 ≤ _), (by decide : 4 + 0 ≤ _)⟩)
    dsimp only [Pt.U, Pt.locs, Pt.cells, Pt.slots] at X182 l182 y182 z182 st182 hQ182
    rw [l182, y182, z182] at X182
    obtain ⟨rfl, Nq182, eq182⟩ := hQ182
    have N182 := Fr.app N181 Nq182
    refine own_tr st182 ?_
    show own_Go _ _ _ _ (T182.setTop (mkF m 36 #[.val (.long u0), .second, .val (.long u1), .second, .val (.int u2), .val (.int (0 : Int32)), .val (.long (u1 - (u1 / (40000000000 : Int64)) * (40000000000 : Int64))), .second, .val (.ref b180), .unset, .unset, .unset] [(.long (own_due (u0 + (500000000 : Int64)) (u0 + (32000000000 : Int64))))]))
    refine own_st (fun _ k => XS.lloadN X182.here hx rfl (hb hby at_36) rfl k) ?_
    show own_Go _ _ _ _ (T182.setTop (mkF m 37 #[.val (.long u0), .second, .val (.long u1), .second, .val (.int u2), .val (.int (0 : Int32)), .val (.long (u1 - (u1 / (40000000000 : Int64)) * (40000000000 : Int64))), .second, .val (.ref b180), .unset, .unset, .unset] [(.long u0), (.long (own_due (u0 + (500000000 : Int64)) (u0 + (32000000000 : Int64))))]))
    refine own_st (fun _ k => X182.ldc2Long hx hown (mvT hZ (hw _ (List.mem_of_getElem? (i := 23) rfl))) (g := (mkF m 37 #[.val (.long u0), .second, .val (.long u1), .second, .val (.int u2), .val (.int (0 : Int32)), .val (.long (u1 - (u1 / (40000000000 : Int64)) * (40000000000 : Int64))), .second, .val (.ref b180), .unset, .unset, .unset] [(.long u0), (.long (own_due (u0 + (500000000 : Int64)) (u0 + (32000000000 : Int64))))])) rfl (hb hby at_37) _ k) ?_
    show own_Go _ _ _ _ (T182.setTop (mkF m 40 #[.val (.long u0), .second, .val (.long u1), .second, .val (.int u2), .val (.int (0 : Int32)), .val (.long (u1 - (u1 / (40000000000 : Int64)) * (40000000000 : Int64))), .second, .val (.ref b180), .unset, .unset, .unset] [(.long (500000000 : Int64)), (.long u0), (.long (own_due (u0 + (500000000 : Int64)) (u0 + (32000000000 : Int64))))]))
    refine own_st (fun _ k => XS.ladd X182.here hx rfl (hb hby at_40) rfl k) ?_
    show own_Go _ _ _ _ (T182.setTop (mkF m 41 #[.val (.long u0), .second, .val (.long u1), .second, .val (.int u2), .val (.int (0 : Int32)), .val (.long (u1 - (u1 / (40000000000 : Int64)) * (40000000000 : Int64))), .second, .val (.ref b180), .unset, .unset, .unset] [(.long (u0 + (500000000 : Int64))), (.long (own_due (u0 + (500000000 : Int64)) (u0 + (32000000000 : Int64))))]))
    refine own_st (fun _ k => XS.lcmp X182.here hx rfl (hb hby at_41) rfl k) ?_
    show own_Go _ _ _ _ (T182.setTop (mkF m 42 #[.val (.long u0), .second, .val (.long u1), .second, .val (.int u2), .val (.int (0 : Int32)), .val (.long (u1 - (u1 / (40000000000 : Int64)) * (40000000000 : Int64))), .second, .val (.ref b180), .unset, .unset, .unset] [(.int (lcmpW (own_due (u0 + (500000000 : Int64)) (u0 + (32000000000 : Int64))) (u0 + (500000000 : Int64))))]))
    refine own_st (fun _ k => XS.ifNo X182.here hx rfl (hb hby at_42) rfl ((if0 _ _).trans (teq (own_first _)).2) k) ?_
    show own_Go _ _ _ _ (T182.setTop (mkF m 45 #[.val (.long u0), .second, .val (.long u1), .second, .val (.int u2), .val (.int (0 : Int32)), .val (.long (u1 - (u1 / (40000000000 : Int64)) * (40000000000 : Int64))), .second, .val (.ref b180), .unset, .unset, .unset] []))
    refine own_st (fun _ k => XS.iconst X182.here hx rfl (hb hby at_45) k) ?_
    show own_Go _ _ _ _ (T182.setTop (mkF m 46 #[.val (.long u0), .second, .val (.long u1), .second, .val (.int u2), .val (.int (0 : Int32)), .val (.long (u1 - (u1 / (40000000000 : Int64)) * (40000000000 : Int64))), .second, .val (.ref b180), .unset, .unset, .unset] [(.int (1 : Int32))]))
    refine own_st (fun _ k => XS.goto X182.here hx rfl (pc0 := 46) (pc' := 50) rfl (hb hby at_46) (by decide) (by decide) k) ?_
    show own_Go _ _ _ _ (T182.setTop (mkF m 50 #[.val (.long u0), .second, .val (.long u1), .second, .val (.int u2), .val (.int (0 : Int32)), .val (.long (u1 - (u1 / (40000000000 : Int64)) * (40000000000 : Int64))), .second, .val (.ref b180), .unset, .unset, .unset] [(.int (1 : Int32))]))
    refine own_st (fun _ k => XS.istore X182.here hx rfl (hb hby at_50) rfl (l' := #[.val (.long u0), .second, .val (.long u1), .second, .val (.int u2), .val (.int (0 : Int32)), .val (.long (u1 - (u1 / (40000000000 : Int64)) * (40000000000 : Int64))), .second, .val (.ref b180), .val (.int (1 : Int32)), .unset, .unset]) rfl k) ?_
    show own_Go _ _ _ _ (T182.setTop (mkF m 52 #[.val (.long u0), .second, .val (.long u1), .second, .val (.int u2), .val (.int (0 : Int32)), .val (.long (u1 - (u1 / (40000000000 : Int64)) * (40000000000 : Int64))), .second, .val (.ref b180), .val (.int (1 : Int32)), .unset, .unset] []))
    refine own_st (fun _ k => XS.iload X182.here hx rfl (hb hby at_52) rfl k) ?_
    show own_Go _ _ _ _ (T182.setTop (mkF m 54 #[.val (.long u0), .second, .val (.long u1), .second, .val (.int u2), .val (.int (0 : Int32)), .val (.long (u1 - (u1 / (40000000000 : Int64)) * (40000000000 : Int64))), .second, .val (.ref b180), .val (.int (1 : Int32)), .unset, .unset] [(.int (0 : Int32))]))
    refine own_st (fun _ k => XS.ifYes X182.here hx rfl (pc0 := 54) (pc' := 62) rfl (hb hby at_54) rfl ((if0 _ _).trans (teq (by decide : ((0 : Int32) = (0 : Int32)))).1) (by decide) (by decide) k) ?_
    show own_Go _ _ _ _ (T182.setTop (mkF m 62 #[.val (.long u0), .second, .val (.long u1), .second, .val (.int u2), .val (.int (0 : Int32)), .val (.long (u1 - (u1 / (40000000000 : Int64)) * (40000000000 : Int64))), .second, .val (.ref b180), .val (.int (1 : Int32)), .unset, .unset] []))
    refine own_st (fun _ k => XS.aload X182.here hx rfl (hb hby at_62) rfl rfl k) ?_
    show own_Go _ _ _ _ (T182.setTop (mkF m 64 #[.val (.long u0), .second, .val (.long u1), .second, .val (.int u2), .val (.int (0 : Int32)), .val (.long (u1 - (u1 / (40000000000 : Int64)) * (40000000000 : Int64))), .second, .val (.ref b180), .val (.int (1 : Int32)), .unset, .unset] [(.ref b180)]))
    refine own_st (fun _ k => XS.lloadN X182.here hx rfl (hb hby at_64) rfl k) ?_
    show own_Go _ _ _ _ (T182.setTop (mkF m 65 #[.val (.long u0), .second, .val (.long u1), .second, .val (.int u2), .val (.int (0 : Int32)), .val (.long (u1 - (u1 / (40000000000 : Int64)) * (40000000000 : Int64))), .second, .val (.ref b180), .val (.int (1 : Int32)), .unset, .unset] [(.long u0), (.ref b180)]))
    refine own_st (fun _ k => XS.lload X182.here hx rfl (hb hby at_65) rfl k) ?_
    show own_Go _ _ _ _ (T182.setTop (mkF m 67 #[.val (.long u0), .second, .val (.long u1), .second, .val (.int u2), .val (.int (0 : Int32)), .val (.long (u1 - (u1 / (40000000000 : Int64)) * (40000000000 : Int64))), .second, .val (.ref b180), .val (.int (1 : Int32)), .unset, .unset] [(.long (u1 - (u1 / (40000000000 : Int64)) * (40000000000 : Int64))), (.long u0), (.ref b180)]))
    refine own_st (fun _ k => XS.ladd X182.here hx rfl (hb hby at_67) rfl k) ?_
    show own_Go _ _ _ _ (T182.setTop (mkF m 68 #[.val (.long u0), .second, .val (.long u1), .second, .val (.int u2), .val (.int (0 : Int32)), .val (.long (u1 - (u1 / (40000000000 : Int64)) * (40000000000 : Int64))), .second, .val (.ref b180), .val (.int (1 : Int32)), .unset, .unset] [(.long (u0 + (u1 - (u1 / (40000000000 : Int64)) * (40000000000 : Int64)))), (.ref b180)]))
    obtain ⟨cq183, kq183, q183a, q183b, q183c⟩ := isOf hZ eq182 z181_E_b180
    obtain ⟨_, _, ⟨T183, L183, k183, n183⟩, -, X183, ⟨Lc183, hQ183, l183, y183, z183⟩, st183⟩ := X182.virtualBack hx (y := (⟨"com/example/troskel/troskel/service/RetransmissionTimer", "retransmits", "(J)Z"⟩ : MethodName)) (z := (⟨"com/example/troskel/troskel/service/RetransmissionTimer", "retransmits", "(J)Z"⟩ : MethodName)) hown (mvT hZ (hw _ (List.mem_of_getElem? (i := 24) rfl))) (mvT hZ (hw _ (List.mem_of_getElem? (i := 25) rfl))) (notFace_of_selects (args := #[]) (mvT hZ (hw _ (List.mem_of_getElem? (i := 27) rfl)))) (mvT hZ (hw _ (List.mem_of_getElem? (i := 27) rfl))) (mvT hZ (hw _ (List.mem_of_getElem? (i := 26) rfl))) (by decide) (backOf (W := 0) (rm4_0 l Z a0 hw [] b180 u0 (u1 - (u1 / (40000000000 : Int64)) * (40000000000 : Int64)) T181.heap n0 Z181 z181_E_b180 gnb180 Fq181_interval Fq181_timeoutAt Fq181_next Fq181_proceeding hk) hZ (hw _ (List.mem_of_getElem? (i := 28) rfl)) (hw _ (List.mem_of_getElem? (i := 3) rfl)) (by decide) (by decide)) q183a q183c (g := (mkF m 68 #[.val (.long u0), .second, .val (.long u1), .second, .val (.int u2), .val (.int (0 : Int32)), .val (.long (u1 - (u1 / (40000000000 : Int64)) * (40000000000 : Int64))), .second, .val (.ref b180), .val (.int (1 : Int32)), .unset, .unset] [(.long (u0 + (u1 - (u1 / (40000000000 : Int64)) * (40000000000 : Int64)))), (.ref b180)])) rfl (by rw [hml]; rfl) (Steps.refl _) (argsL := [(.long (u0 + (u1 - (u1 / (40000000000 : Int64)) * (40000000000 : Int64))))]) (rest := []) (lenOf own_pd2 rfl) rfl (by show 2 * 0 + _ ≤ _; exact Nat.le_of_eq rfl) (hb hby at_68) (fun _ _ => ⟨rfl, eq182, (by decide : 1 + 0 ≤ _), (by decide : 4 + 0 ≤ _)⟩)
    dsimp only [Pt.U, Pt.locs, Pt.cells, Pt.slots] at X183 l183 y183 z183 st183 hQ183
    rw [l183, y183, z183] at X183
    obtain ⟨r183, rfl, Nq183, Kq183, Eq183, Fn183, Ft183⟩ := hQ183
    have N183 := Fr.app N182 Nq183
    refine own_tr st183 ?_
    have z183_E_b180 := z181_E_b180.keep Kq183
    have Z183 : n0 ≤ T183.heap.size := Nat.le_trans Z181 Kq183.1
    have Kk183 : Keep h0 T183.heap [] := Kk181.trans Kq183 (allS (Or.inr gkb180) all0)
    show own_Go _ _ _ _ (T183.setTop (mkF m 71 #[.val (.long u0), .second, .val (.long u1), .second, .val (.int u2), .val (.int (0 : Int32)), .val (.long (u1 - (u1 / (40000000000 : Int64)) * (40000000000 : Int64))), .second, .val (.ref b180), .val (.int (1 : Int32)), .unset, .unset] [(.int r183)]))
    refine own_st (fun _ k => XS.pop X183.here hx rfl (hb hby at_71) rfl rfl k) ?_
    show own_Go _ _ _ _ (T183.setTop (mkF m 72 #[.val (.long u0), .second, .val (.long u1), .second, .val (.int u2), .val (.int (0 : Int32)), .val (.long (u1 - (u1 / (40000000000 : Int64)) * (40000000000 : Int64))), .second, .val (.ref b180), .val (.int (1 : Int32)), .unset, .unset] []))
    refine own_st (fun _ k => XS.lloadN X183.here hx rfl (hb hby at_72) rfl k) ?_
    show own_Go _ _ _ _ (T183.setTop (mkF m 73 #[.val (.long u0), .second, .val (.long u1), .second, .val (.int u2), .val (.int (0 : Int32)), .val (.long (u1 - (u1 / (40000000000 : Int64)) * (40000000000 : Int64))), .second, .val (.ref b180), .val (.int (1 : Int32)), .unset, .unset] [(.long u0)]))
    refine own_st (fun _ k => XS.lload X183.here hx rfl (hb hby at_73) rfl k) ?_
    show own_Go _ _ _ _ (T183.setTop (mkF m 75 #[.val (.long u0), .second, .val (.long u1), .second, .val (.int u2), .val (.int (0 : Int32)), .val (.long (u1 - (u1 / (40000000000 : Int64)) * (40000000000 : Int64))), .second, .val (.ref b180), .val (.int (1 : Int32)), .unset, .unset] [(.long (u1 - (u1 / (40000000000 : Int64)) * (40000000000 : Int64))), (.long u0)]))
    refine own_st (fun _ k => XS.iload X183.here hx rfl (hb hby at_75) rfl k) ?_
    show own_Go _ _ _ _ (T183.setTop (mkF m 77 #[.val (.long u0), .second, .val (.long u1), .second, .val (.int u2), .val (.int (0 : Int32)), .val (.long (u1 - (u1 / (40000000000 : Int64)) * (40000000000 : Int64))), .second, .val (.ref b180), .val (.int (1 : Int32)), .unset, .unset] [(.int (0 : Int32)), (.long (u1 - (u1 / (40000000000 : Int64)) * (40000000000 : Int64))), (.long u0)]))
    obtain ⟨_, _, ⟨T184, L184, k184, n184⟩, -, X184, ⟨Lc184, hQ184, l184, y184, z184⟩, st184⟩ := Jvm.LawKit.callS X183 hx (y := (⟨"com/example/troskel/troskel/service/RetransmissionTimerDueNanosPinLaw", "expectedOffset", "(JZ)J"⟩ : MethodName)) hown (mvT hZ (hw _ (List.mem_of_getElem? (i := 34) rfl))) (mvT hZ (hw _ (List.mem_of_getElem? (i := 35) rfl))) (mvT hZ (hw _ (List.mem_of_getElem? (i := 36) rfl))) (mvT hZ (hw _ (List.mem_of_getElem? (i := 37) rfl))) (by decide) (backOf (W := 2) (rm6 l Z a0 hw [] (u1 - (u1 / (40000000000 : Int64)) * (40000000000 : Int64)) (0 : Int32) T183.heap n0 Z183 ) hZ (hw _ (List.mem_of_getElem? (i := 37) rfl)) (hw _ (List.mem_of_getElem? (i := 36) rfl)) (by decide) (by decide)) (g := (mkF m 77 #[.val (.long u0), .second, .val (.long u1), .second, .val (.int u2), .val (.int (0 : Int32)), .val (.long (u1 - (u1 / (40000000000 : Int64)) * (40000000000 : Int64))), .second, .val (.ref b180), .val (.int (1 : Int32)), .unset, .unset] [(.int (0 : Int32)), (.long (u1 - (u1 / (40000000000 : Int64)) * (40000000000 : Int64))), (.long u0)])) rfl (by rw [hml]; rfl) (argsL := [(.long (u1 - (u1 / (40000000000 : Int64)) * (40000000000 : Int64))), (.int (0 : Int32))]) (rest := [(.long u0)]) (lenOf own_pd5 rfl) rfl (by show 2 * 0 + _ ≤ _; exact Nat.le_of_eq rfl) (hb hby at_77) (fun _ _ => ⟨rfl, rfl, (by decide : 1 + 0 ≤ _), (by decide : 4 + 0 ≤ _)⟩)
    dsimp only [Pt.U, Pt.locs, Pt.cells, Pt.slots] at X184 l184 y184 z184 st184 hQ184
    rw [l184, y184, z184] at X184
    obtain ⟨rfl, Nq184, eq184⟩ := hQ184
    have N184 := Fr.app N183 Nq184
    refine own_st st184 ?_
    show own_Go _ _ _ _ (T184.setTop (mkF m 80 #[.val (.long u0), .second, .val (.long u1), .second, .val (.int u2), .val (.int (0 : Int32)), .val (.long (u1 - (u1 / (40000000000 : Int64)) * (40000000000 : Int64))), .second, .val (.ref b180), .val (.int (1 : Int32)), .unset, .unset] [(.long (own_eo (u1 - (u1 / (40000000000 : Int64)) * (40000000000 : Int64)) (0 : Int32))), (.long u0)]))
    refine own_st (fun _ k => XS.ladd X184.here hx rfl (hb hby at_80) rfl k) ?_
    show own_Go _ _ _ _ (T184.setTop (mkF m 81 #[.val (.long u0), .second, .val (.long u1), .second, .val (.int u2), .val (.int (0 : Int32)), .val (.long (u1 - (u1 / (40000000000 : Int64)) * (40000000000 : Int64))), .second, .val (.ref b180), .val (.int (1 : Int32)), .unset, .unset] [(.long (u0 + (own_eo (u1 - (u1 / (40000000000 : Int64)) * (40000000000 : Int64)) (0 : Int32))))]))
    refine own_st (fun _ k => XS.lstore X184.here hx rfl (hb hby at_81) rfl (l' := #[.val (.long u0), .second, .val (.long u1), .second, .val (.int u2), .val (.int (0 : Int32)), .val (.long (u1 - (u1 / (40000000000 : Int64)) * (40000000000 : Int64))), .second, .val (.ref b180), .val (.int (1 : Int32)), .val (.long (u0 + (own_eo (u1 - (u1 / (40000000000 : Int64)) * (40000000000 : Int64)) (0 : Int32)))), .second]) rfl k) ?_
    show own_Go _ _ _ _ (T184.setTop (mkF m 83 #[.val (.long u0), .second, .val (.long u1), .second, .val (.int u2), .val (.int (0 : Int32)), .val (.long (u1 - (u1 / (40000000000 : Int64)) * (40000000000 : Int64))), .second, .val (.ref b180), .val (.int (1 : Int32)), .val (.long (u0 + (own_eo (u1 - (u1 / (40000000000 : Int64)) * (40000000000 : Int64)) (0 : Int32)))), .second] []))
    refine own_st (fun _ k => XS.iload X184.here hx rfl (hb hby at_83) rfl k) ?_
    show own_Go _ _ _ _ (T184.setTop (mkF m 85 #[.val (.long u0), .second, .val (.long u1), .second, .val (.int u2), .val (.int (0 : Int32)), .val (.long (u1 - (u1 / (40000000000 : Int64)) * (40000000000 : Int64))), .second, .val (.ref b180), .val (.int (1 : Int32)), .val (.long (u0 + (own_eo (u1 - (u1 / (40000000000 : Int64)) * (40000000000 : Int64)) (0 : Int32)))), .second] [(.int (1 : Int32))]))
    refine own_st (fun _ k => XS.ifNo X184.here hx rfl (hb hby at_85) rfl ((if0 _ _).trans (feq (by decide : ¬ ((1 : Int32) = (0 : Int32)))).1) k) ?_
    show own_Go _ _ _ _ (T184.setTop (mkF m 88 #[.val (.long u0), .second, .val (.long u1), .second, .val (.int u2), .val (.int (0 : Int32)), .val (.long (u1 - (u1 / (40000000000 : Int64)) * (40000000000 : Int64))), .second, .val (.ref b180), .val (.int (1 : Int32)), .val (.long (u0 + (own_eo (u1 - (u1 / (40000000000 : Int64)) * (40000000000 : Int64)) (0 : Int32)))), .second] []))
    refine own_st (fun _ k => XS.aload X184.here hx rfl (hb hby at_88) rfl rfl k) ?_
    show own_Go _ _ _ _ (T184.setTop (mkF m 90 #[.val (.long u0), .second, .val (.long u1), .second, .val (.int u2), .val (.int (0 : Int32)), .val (.long (u1 - (u1 / (40000000000 : Int64)) * (40000000000 : Int64))), .second, .val (.ref b180), .val (.int (1 : Int32)), .val (.long (u0 + (own_eo (u1 - (u1 / (40000000000 : Int64)) * (40000000000 : Int64)) (0 : Int32)))), .second] [(.ref b180)]))
    obtain ⟨cq185, kq185, q185a, q185b, q185c⟩ := isOf hZ eq184 z183_E_b180
    obtain ⟨_, _, ⟨T185, L185, k185, n185⟩, -, X185, ⟨Lc185, hQ185, l185, y185, z185⟩, st185⟩ := X184.virtualBack hx (y := (⟨"com/example/troskel/troskel/service/RetransmissionTimer", "dueNanos", "()J"⟩ : MethodName)) (z := (⟨"com/example/troskel/troskel/service/RetransmissionTimer", "dueNanos", "()J"⟩ : MethodName)) hown (mvT hZ (hw _ (List.mem_of_getElem? (i := 18) rfl))) (mvT hZ (hw _ (List.mem_of_getElem? (i := 19) rfl))) (notFace_of_selects (args := #[]) (mvT hZ (hw _ (List.mem_of_getElem? (i := 21) rfl)))) (mvT hZ (hw _ (List.mem_of_getElem? (i := 21) rfl))) (mvT hZ (hw _ (List.mem_of_getElem? (i := 20) rfl))) (by decide) (backOf (W := 0) (rm3 l Z a0 hw [] b180  (own_nx0 u0 (u1 - (u1 / (40000000000 : Int64)) * (40000000000 : Int64))) (u0 + (32000000000 : Int64)) T183.heap n0 Z183 Fn183 Ft183 ) hZ (hw _ (List.mem_of_getElem? (i := 22) rfl)) (hw _ (List.mem_of_getElem? (i := 3) rfl)) (by decide) (by decide)) q185a q185c (g := (mkF m 90 #[.val (.long u0), .second, .val (.long u1), .second, .val (.int u2), .val (.int (0 : Int32)), .val (.long (u1 - (u1 / (40000000000 : Int64)) * (40000000000 : Int64))), .second, .val (.ref b180), .val (.int (1 : Int32)), .val (.long (u0 + (own_eo (u1 - (u1 / (40000000000 : Int64)) * (40000000000 : Int64)) (0 : Int32)))), .second] [(.ref b180)])) rfl (by rw [hml]; rfl) (Steps.refl _) (argsL := []) (rest := []) (lenOf own_pd3 rfl) rfl (by show 2 * 0 + _ ≤ _; exact Nat.le_of_eq rfl) (hb hby at_90) (fun _ _ => ⟨rfl, eq184, (by decide : 1 + 0 ≤ _), (by decide : 4 + 0 ≤ _)⟩)
    dsimp only [Pt.U, Pt.locs, Pt.cells, Pt.slots] at X185 l185 y185 z185 st185 hQ185
    rw [l185, y185, z185] at X185
    obtain ⟨rfl, Nq185, eq185⟩ := hQ185
    have N185 := Fr.app N184 Nq185
    refine own_tr st185 ?_
    show own_Go _ _ _ _ (T185.setTop (mkF m 93 #[.val (.long u0), .second, .val (.long u1), .second, .val (.int u2), .val (.int (0 : Int32)), .val (.long (u1 - (u1 / (40000000000 : Int64)) * (40000000000 : Int64))), .second, .val (.ref b180), .val (.int (1 : Int32)), .val (.long (u0 + (own_eo (u1 - (u1 / (40000000000 : Int64)) * (40000000000 : Int64)) (0 : Int32)))), .second] [(.long (own_due (own_nx0 u0 (u1 - (u1 / (40000000000 : Int64)) * (40000000000 : Int64))) (u0 + (32000000000 : Int64))))]))
    refine own_st (fun _ k => XS.lload X185.here hx rfl (hb hby at_93) rfl k) ?_
    show own_Go _ _ _ _ (T185.setTop (mkF m 95 #[.val (.long u0), .second, .val (.long u1), .second, .val (.int u2), .val (.int (0 : Int32)), .val (.long (u1 - (u1 / (40000000000 : Int64)) * (40000000000 : Int64))), .second, .val (.ref b180), .val (.int (1 : Int32)), .val (.long (u0 + (own_eo (u1 - (u1 / (40000000000 : Int64)) * (40000000000 : Int64)) (0 : Int32)))), .second] [(.long (u0 + (own_eo (u1 - (u1 / (40000000000 : Int64)) * (40000000000 : Int64)) (0 : Int32)))), (.long (own_due (own_nx0 u0 (u1 - (u1 / (40000000000 : Int64)) * (40000000000 : Int64))) (u0 + (32000000000 : Int64))))]))
    refine own_st (fun _ k => XS.lcmp X185.here hx rfl (hb hby at_95) rfl k) ?_
    show own_Go _ _ _ _ (T185.setTop (mkF m 96 #[.val (.long u0), .second, .val (.long u1), .second, .val (.int u2), .val (.int (0 : Int32)), .val (.long (u1 - (u1 / (40000000000 : Int64)) * (40000000000 : Int64))), .second, .val (.ref b180), .val (.int (1 : Int32)), .val (.long (u0 + (own_eo (u1 - (u1 / (40000000000 : Int64)) * (40000000000 : Int64)) (0 : Int32)))), .second] [(.int (lcmpW (own_due (own_nx0 u0 (u1 - (u1 / (40000000000 : Int64)) * (40000000000 : Int64))) (u0 + (32000000000 : Int64))) (u0 + (own_eo (u1 - (u1 / (40000000000 : Int64)) * (40000000000 : Int64)) (0 : Int32)))))]))
    refine own_st (fun _ k => XS.ifNo X185.here hx rfl (hb hby at_96) rfl ((if0 _ _).trans (teq (own_fin0 _ _ hk)).2) k) ?_
    show own_Go _ _ _ _ (T185.setTop (mkF m 99 #[.val (.long u0), .second, .val (.long u1), .second, .val (.int u2), .val (.int (0 : Int32)), .val (.long (u1 - (u1 / (40000000000 : Int64)) * (40000000000 : Int64))), .second, .val (.ref b180), .val (.int (1 : Int32)), .val (.long (u0 + (own_eo (u1 - (u1 / (40000000000 : Int64)) * (40000000000 : Int64)) (0 : Int32)))), .second] []))
    refine own_st (fun _ k => XS.iconst X185.here hx rfl (hb hby at_99) k) ?_
    show own_Go _ _ _ _ (T185.setTop (mkF m 100 #[.val (.long u0), .second, .val (.long u1), .second, .val (.int u2), .val (.int (0 : Int32)), .val (.long (u1 - (u1 / (40000000000 : Int64)) * (40000000000 : Int64))), .second, .val (.ref b180), .val (.int (1 : Int32)), .val (.long (u0 + (own_eo (u1 - (u1 / (40000000000 : Int64)) * (40000000000 : Int64)) (0 : Int32)))), .second] [(.int (1 : Int32))]))
    refine own_st (fun _ k => XS.goto X185.here hx rfl (pc0 := 100) (pc' := 104) rfl (hb hby at_100) (by decide) (by decide) k) ?_
    show own_Go _ _ _ _ (T185.setTop (mkF m 104 #[.val (.long u0), .second, .val (.long u1), .second, .val (.int u2), .val (.int (0 : Int32)), .val (.long (u1 - (u1 / (40000000000 : Int64)) * (40000000000 : Int64))), .second, .val (.ref b180), .val (.int (1 : Int32)), .val (.long (u0 + (own_eo (u1 - (u1 / (40000000000 : Int64)) * (40000000000 : Int64)) (0 : Int32)))), .second] [(.int (1 : Int32))]))
    obtain ⟨fs, hr, hrun, hended, hW, hsame⟩ := X185.leave (v := some (.int (1 : Int32))) (fun h => by rw [Bd.returns] at h; cases h)
    refine own_out (retN X185 hx (t := .boolean) Bd.returns (by simp) (hb hby at_104) hr) ⟨hrun, hended, _, _, rfl, ?_, ⟨_, rfl⟩, hW, hsame.mono (by decide) (by decide)⟩
    show Q0 Z u0 u1 u2 h0 n0 _ T185.heap _
    exact ⟨rfl, N185⟩
  · skip
    refine own_st (fun _ k => XS.ifNo X0.here hx rfl (hb hby at_4) rfl ((if0 _ _).trans (feq hc179).1) k) ?_
    show own_Go _ _ _ _ (s₁.setTop (mkF m 7 #[.val (.long u0), .second, .val (.long u1), .second, .val (.int u2), .unset, .unset, .unset, .unset, .unset, .unset, .unset] []))
    refine own_st (fun _ k => XS.iconst X0.here hx rfl (hb hby at_7) k) ?_
    show own_Go _ _ _ _ (s₁.setTop (mkF m 8 #[.val (.long u0), .second, .val (.long u1), .second, .val (.int u2), .unset, .unset, .unset, .unset, .unset, .unset, .unset] [(.int (1 : Int32))]))
    refine own_st (fun _ k => XS.goto X0.here hx rfl (pc0 := 8) (pc' := 12) rfl (hb hby at_8) (by decide) (by decide) k) ?_
    show own_Go _ _ _ _ (s₁.setTop (mkF m 12 #[.val (.long u0), .second, .val (.long u1), .second, .val (.int u2), .unset, .unset, .unset, .unset, .unset, .unset, .unset] [(.int (1 : Int32))]))
    refine own_st (fun _ k => XS.istore X0.here hx rfl (hb hby at_12) rfl (l' := #[.val (.long u0), .second, .val (.long u1), .second, .val (.int u2), .val (.int (1 : Int32)), .unset, .unset, .unset, .unset, .unset, .unset]) rfl k) ?_
    show own_Go _ _ _ _ (s₁.setTop (mkF m 14 #[.val (.long u0), .second, .val (.long u1), .second, .val (.int u2), .val (.int (1 : Int32)), .unset, .unset, .unset, .unset, .unset, .unset] []))
    refine own_st (fun _ k => XS.lloadN X0.here hx rfl (hb hby at_14) rfl k) ?_
    show own_Go _ _ _ _ (s₁.setTop (mkF m 15 #[.val (.long u0), .second, .val (.long u1), .second, .val (.int u2), .val (.int (1 : Int32)), .unset, .unset, .unset, .unset, .unset, .unset] [(.long u1)]))
    refine own_st (fun _ k => X0.ldc2Long hx hown (mvT hZ (hw _ (List.mem_of_getElem? (i := 0) rfl))) (g := (mkF m 15 #[.val (.long u0), .second, .val (.long u1), .second, .val (.int u2), .val (.int (1 : Int32)), .unset, .unset, .unset, .unset, .unset, .unset] [(.long u1)])) rfl (hb hby at_15) _ k) ?_
    show own_Go _ _ _ _ (s₁.setTop (mkF m 18 #[.val (.long u0), .second, .val (.long u1), .second, .val (.int u2), .val (.int (1 : Int32)), .unset, .unset, .unset, .unset, .unset, .unset] [(.long (40000000000 : Int64)), (.long u1)]))
    refine own_st (fun _ k => XS.lrem X0.here hx rfl (hb hby at_18) rfl (by decide : ¬ ((40000000000 : Int64) = (0 : Int64))) k) ?_
    show own_Go _ _ _ _ (s₁.setTop (mkF m 19 #[.val (.long u0), .second, .val (.long u1), .second, .val (.int u2), .val (.int (1 : Int32)), .unset, .unset, .unset, .unset, .unset, .unset] [(.long (u1 - (u1 / (40000000000 : Int64)) * (40000000000 : Int64)))]))
    refine own_st (fun _ k => XS.lstore X0.here hx rfl (hb hby at_19) rfl (l' := #[.val (.long u0), .second, .val (.long u1), .second, .val (.int u2), .val (.int (1 : Int32)), .val (.long (u1 - (u1 / (40000000000 : Int64)) * (40000000000 : Int64))), .second, .unset, .unset, .unset, .unset]) rfl k) ?_
    show own_Go _ _ _ _ (s₁.setTop (mkF m 21 #[.val (.long u0), .second, .val (.long u1), .second, .val (.int u2), .val (.int (1 : Int32)), .val (.long (u1 - (u1 / (40000000000 : Int64)) * (40000000000 : Int64))), .second, .unset, .unset, .unset, .unset] []))
    have hk : own_rg (u1 - (u1 / (40000000000 : Int64)) * (40000000000 : Int64)) := own_krg u1
    obtain ⟨T186, h186, X186, e186, E186, A186, D186, -, st186⟩ := newO X0 hx hZ hown (hw _ (List.mem_of_getElem? (i := 1) rfl)) (hw _ (List.mem_of_getElem? (i := 2) rfl)) (hw _ (List.mem_of_getElem? (i := 3) rfl)) e0 (g := (mkF m 21 #[.val (.long u0), .second, .val (.long u1), .second, .val (.int u2), .val (.int (1 : Int32)), .val (.long (u1 - (u1 / (40000000000 : Int64)) * (40000000000 : Int64))), .second, .unset, .unset, .unset, .unset] [])) rfl (hb hby at_21) (by decide) (by decide)
    obtain ⟨b186, g186⟩ : ∃ z, z = h0.size := ⟨_, rfl⟩
    rw [← g186] at A186 D186 st186
    refine own_st st186 ?_
    have Z186 : n0 ≤ h186.size := Nat.le_trans Z0 E186.1
    have gnb186 : n0 ≤ b186 := Nat.le_trans Z0 (Nat.le_of_eq g186.symm)
    have gkb186 : h0.size ≤ b186 := Nat.le_trans K0.1 (Nat.le_of_eq g186.symm)
    have K186 : Keep h0 h186 [] := K0.ext E186
    have F186_interval : Fld Z h186 b186 "com/example/troskel/troskel/service/RetransmissionTimer" "interval" "J" (.long (0 : Int64)) := D186 (Or.inl (hw _ (List.mem_of_getElem? (i := 12) rfl))) (ty := .long) (by decide)
    have F186_timeoutAt : Fld Z h186 b186 "com/example/troskel/troskel/service/RetransmissionTimer" "timeoutAt" "J" (.long (0 : Int64)) := D186 (Or.inr (hw _ (List.mem_of_getElem? (i := 15) rfl))) (ty := .long) (by decide)
    have F186_next : Fld Z h186 b186 "com/example/troskel/troskel/service/RetransmissionTimer" "next" "J" (.long (0 : Int64)) := D186 (Or.inl (hw _ (List.mem_of_getElem? (i := 17) rfl))) (ty := .long) (by decide)
    have F186_proceeding : Fld Z h186 b186 "com/example/troskel/troskel/service/RetransmissionTimer" "proceeding" "Z" (.int (0 : Int32)) := D186 (Or.inl (hw _ (List.mem_of_getElem? (i := 44) rfl))) (ty := .boolean) (by decide)
    show own_Go _ _ _ _ (T186.setTop (mkF m 24 #[.val (.long u0), .second, .val (.long u1), .second, .val (.int u2), .val (.int (1 : Int32)), .val (.long (u1 - (u1 / (40000000000 : Int64)) * (40000000000 : Int64))), .second, .unset, .unset, .unset, .unset] [(.ref b186)]))
    refine own_st (fun _ k => XS.dup X186.here hx rfl (hb hby at_24) rfl rfl k) ?_
    show own_Go _ _ _ _ (T186.setTop (mkF m 25 #[.val (.long u0), .second, .val (.long u1), .second, .val (.int u2), .val (.int (1 : Int32)), .val (.long (u1 - (u1 / (40000000000 : Int64)) * (40000000000 : Int64))), .second, .unset, .unset, .unset, .unset] [(.ref b186), (.ref b186)]))
    refine own_st (fun _ k => XS.lloadN X186.here hx rfl (hb hby at_25) rfl k) ?_
    show own_Go _ _ _ _ (T186.setTop (mkF m 26 #[.val (.long u0), .second, .val (.long u1), .second, .val (.int u2), .val (.int (1 : Int32)), .val (.long (u1 - (u1 / (40000000000 : Int64)) * (40000000000 : Int64))), .second, .unset, .unset, .unset, .unset] [(.long u0), (.ref b186), (.ref b186)]))
    obtain ⟨_, _, ⟨T187, L187, k187, n187⟩, -, X187, ⟨Lc187, hQ187, l187, y187, z187⟩, st187⟩ := X186.specialBack hx (y := (⟨"com/example/troskel/troskel/service/RetransmissionTimer", "<init>", "(J)V"⟩ : MethodName)) rfl hown (mvT hZ (hw _ (List.mem_of_getElem? (i := 4) rfl))) (mvT hZ (hw _ (List.mem_of_getElem? (i := 5) rfl))) (mvT hZ (hw _ (List.mem_of_getElem? (i := 6) rfl))) (by decide) (backOf (W := 1) (rm1 l Z a0 hw [] b186 u0 (.long (0 : Int64)) (.long (0 : Int64)) (.long (0 : Int64)) (.int (0 : Int32)) h186 n0 Z186 A186 gnb186 F186_interval F186_timeoutAt F186_next F186_proceeding ) hZ (hw _ (List.mem_of_getElem? (i := 6) rfl)) (hw _ (List.mem_of_getElem? (i := 3) rfl)) (by decide) (by decide)) (g := (mkF m 26 #[.val (.long u0), .second, .val (.long u1), .second, .val (.int u2), .val (.int (1 : Int32)), .val (.long (u1 - (u1 / (40000000000 : Int64)) * (40000000000 : Int64))), .second, .unset, .unset, .unset, .unset] [(.long u0), (.ref b186), (.ref b186)])) rfl (by rw [hml]; rfl) (Steps.refl _) (a := b186) (argsL := [(.long u0)]) (rest := [(.ref b186)]) (lenOf own_pd1 rfl) rfl (by show 2 * 0 + _ ≤ _; exact Nat.le_of_eq rfl) (hb hby at_26) (fun _ _ => ⟨rfl, e186, (by decide : 1 + 0 ≤ _), (by decide : 4 + 0 ≤ _)⟩)
    dsimp only [Pt.U, Pt.locs, Pt.cells, Pt.slots] at X187 l187 y187 z187 st187 hQ187
    rw [l187, y187, z187] at X187
    obtain ⟨rfl, Nq187, Kq187, Eq187, Fq187_interval, Fq187_timeoutAt, Fq187_next, Fq187_proceeding⟩ := hQ187
    have N187 := Fr.app N0 Nq187
    refine own_tr st187 ?_
    have z187_E_b186 := A186.keep Kq187
    have Z187 : n0 ≤ T187.heap.size := Nat.le_trans Z186 Kq187.1
    have Kk187 : Keep h0 T187.heap [] := K186.trans Kq187 (allS (Or.inr gkb186) all0)
    show own_Go _ _ _ _ (T187.setTop (mkF m 29 #[.val (.long u0), .second, .val (.long u1), .second, .val (.int u2), .val (.int (1 : Int32)), .val (.long (u1 - (u1 / (40000000000 : Int64)) * (40000000000 : Int64))), .second, .unset, .unset, .unset, .unset] [(.ref b186)]))
    refine own_st (fun _ k => XS.astore X187.here hx rfl (hb hby at_29) rfl rfl (l' := #[.val (.long u0), .second, .val (.long u1), .second, .val (.int u2), .val (.int (1 : Int32)), .val (.long (u1 - (u1 / (40000000000 : Int64)) * (40000000000 : Int64))), .second, .val (.ref b186), .unset, .unset, .unset]) rfl k) ?_
    show own_Go _ _ _ _ (T187.setTop (mkF m 31 #[.val (.long u0), .second, .val (.long u1), .second, .val (.int u2), .val (.int (1 : Int32)), .val (.long (u1 - (u1 / (40000000000 : Int64)) * (40000000000 : Int64))), .second, .val (.ref b186), .unset, .unset, .unset] []))
    refine own_st (fun _ k => XS.aload X187.here hx rfl (hb hby at_31) rfl rfl k) ?_
    show own_Go _ _ _ _ (T187.setTop (mkF m 33 #[.val (.long u0), .second, .val (.long u1), .second, .val (.int u2), .val (.int (1 : Int32)), .val (.long (u1 - (u1 / (40000000000 : Int64)) * (40000000000 : Int64))), .second, .val (.ref b186), .unset, .unset, .unset] [(.ref b186)]))
    obtain ⟨cq188, kq188, q188a, q188b, q188c⟩ := isOf hZ rfl z187_E_b186
    obtain ⟨_, _, ⟨T188, L188, k188, n188⟩, -, X188, ⟨Lc188, hQ188, l188, y188, z188⟩, st188⟩ := X187.virtualBack hx (y := (⟨"com/example/troskel/troskel/service/RetransmissionTimer", "dueNanos", "()J"⟩ : MethodName)) (z := (⟨"com/example/troskel/troskel/service/RetransmissionTimer", "dueNanos", "()J"⟩ : MethodName)) hown (mvT hZ (hw _ (List.mem_of_getElem? (i := 18) rfl))) (mvT hZ (hw _ (List.mem_of_getElem? (i := 19) rfl))) (notFace_of_selects (args := #[]) (mvT hZ (hw _ (List.mem_of_getElem? (i := 21) rfl)))) (mvT hZ (hw _ (List.mem_of_getElem? (i := 21) rfl))) (mvT hZ (hw _ (List.mem_of_getElem? (i := 20) rfl))) (by decide) (backOf (W := 0) (rm3 l Z a0 hw [] b186  (u0 + (500000000 : Int64)) (u0 + (32000000000 : Int64)) T187.heap n0 Z187 Fq187_next Fq187_timeoutAt ) hZ (hw _ (List.mem_of_getElem? (i := 22) rfl)) (hw _ (List.mem_of_getElem? (i := 3) rfl)) (by decide) (by decide)) q188a q188c (g := (mkF m 33 #[.val (.long u0), .second, .val (.long u1), .second, .val (.int u2), .val (.int (1 : Int32)), .val (.long (u1 - (u1 / (40000000000 : Int64)) * (40000000000 : Int64))), .second, .val (.ref b186), .unset, .unset, .unset] [(.ref b186)])) rfl (by rw [hml]; rfl) (Steps.refl _) (argsL := []) (rest := []) (lenOf own_pd3 rfl) rfl (by show 2 * 0 + _ ≤ _; exact Nat.le_of_eq rfl) (hb hby at_33) (fun _ _ => ⟨rfl, rfl, (by decide : 1 + 0 ≤ _), (by decide : 4 + 0 ≤ _)⟩)
    dsimp only [Pt.U, Pt.locs, Pt.cells, Pt.slots] at X188 l188 y188 z188 st188 hQ188
    rw [l188, y188, z188] at X188
    obtain ⟨rfl, Nq188, eq188⟩ := hQ188
    have N188 := Fr.app N187 Nq188
    refine own_tr st188 ?_
    show own_Go _ _ _ _ (T188.setTop (mkF m 36 #[.val (.long u0), .second, .val (.long u1), .second, .val (.int u2), .val (.int (1 : Int32)), .val (.long (u1 - (u1 / (40000000000 : Int64)) * (40000000000 : Int64))), .second, .val (.ref b186), .unset, .unset, .unset] [(.long (own_due (u0 + (500000000 : Int64)) (u0 + (32000000000 : Int64))))]))
    refine own_st (fun _ k => XS.lloadN X188.here hx rfl (hb hby at_36) rfl k) ?_
    show own_Go _ _ _ _ (T188.setTop (mkF m 37 #[.val (.long u0), .second, .val (.long u1), .second, .val (.int u2), .val (.int (1 : Int32)), .val (.long (u1 - (u1 / (40000000000 : Int64)) * (40000000000 : Int64))), .second, .val (.ref b186), .unset, .unset, .unset] [(.long u0), (.long (own_due (u0 + (500000000 : Int64)) (u0 + (32000000000 : Int64))))]))
    refine own_st (fun _ k => X188.ldc2Long hx hown (mvT hZ (hw _ (List.mem_of_getElem? (i := 23) rfl))) (g := (mkF m 37 #[.val (.long u0), .second, .val (.long u1), .second, .val (.int u2), .val (.int (1 : Int32)), .val (.long (u1 - (u1 / (40000000000 : Int64)) * (40000000000 : Int64))), .second, .val (.ref b186), .unset, .unset, .unset] [(.long u0), (.long (own_due (u0 + (500000000 : Int64)) (u0 + (32000000000 : Int64))))])) rfl (hb hby at_37) _ k) ?_
    show own_Go _ _ _ _ (T188.setTop (mkF m 40 #[.val (.long u0), .second, .val (.long u1), .second, .val (.int u2), .val (.int (1 : Int32)), .val (.long (u1 - (u1 / (40000000000 : Int64)) * (40000000000 : Int64))), .second, .val (.ref b186), .unset, .unset, .unset] [(.long (500000000 : Int64)), (.long u0), (.long (own_due (u0 + (500000000 : Int64)) (u0 + (32000000000 : Int64))))]))
    refine own_st (fun _ k => XS.ladd X188.here hx rfl (hb hby at_40) rfl k) ?_
    show own_Go _ _ _ _ (T188.setTop (mkF m 41 #[.val (.long u0), .second, .val (.long u1), .second, .val (.int u2), .val (.int (1 : Int32)), .val (.long (u1 - (u1 / (40000000000 : Int64)) * (40000000000 : Int64))), .second, .val (.ref b186), .unset, .unset, .unset] [(.long (u0 + (500000000 : Int64))), (.long (own_due (u0 + (500000000 : Int64)) (u0 + (32000000000 : Int64))))]))
    refine own_st (fun _ k => XS.lcmp X188.here hx rfl (hb hby at_41) rfl k) ?_
    show own_Go _ _ _ _ (T188.setTop (mkF m 42 #[.val (.long u0), .second, .val (.long u1), .second, .val (.int u2), .val (.int (1 : Int32)), .val (.long (u1 - (u1 / (40000000000 : Int64)) * (40000000000 : Int64))), .second, .val (.ref b186), .unset, .unset, .unset] [(.int (lcmpW (own_due (u0 + (500000000 : Int64)) (u0 + (32000000000 : Int64))) (u0 + (500000000 : Int64))))]))
    refine own_st (fun _ k => XS.ifNo X188.here hx rfl (hb hby at_42) rfl ((if0 _ _).trans (teq (own_first _)).2) k) ?_
    show own_Go _ _ _ _ (T188.setTop (mkF m 45 #[.val (.long u0), .second, .val (.long u1), .second, .val (.int u2), .val (.int (1 : Int32)), .val (.long (u1 - (u1 / (40000000000 : Int64)) * (40000000000 : Int64))), .second, .val (.ref b186), .unset, .unset, .unset] []))
    refine own_st (fun _ k => XS.iconst X188.here hx rfl (hb hby at_45) k) ?_
    show own_Go _ _ _ _ (T188.setTop (mkF m 46 #[.val (.long u0), .second, .val (.long u1), .second, .val (.int u2), .val (.int (1 : Int32)), .val (.long (u1 - (u1 / (40000000000 : Int64)) * (40000000000 : Int64))), .second, .val (.ref b186), .unset, .unset, .unset] [(.int (1 : Int32))]))
    refine own_st (fun _ k => XS.goto X188.here hx rfl (pc0 := 46) (pc' := 50) rfl (hb hby at_46) (by decide) (by decide) k) ?_
    show own_Go _ _ _ _ (T188.setTop (mkF m 50 #[.val (.long u0), .second, .val (.long u1), .second, .val (.int u2), .val (.int (1 : Int32)), .val (.long (u1 - (u1 / (40000000000 : Int64)) * (40000000000 : Int64))), .second, .val (.ref b186), .unset, .unset, .unset] [(.int (1 : Int32))]))
    refine own_st (fun _ k => XS.istore X188.here hx rfl (hb hby at_50) rfl (l' := #[.val (.long u0), .second, .val (.long u1), .second, .val (.int u2), .val (.int (1 : Int32)), .val (.long (u1 - (u1 / (40000000000 : Int64)) * (40000000000 : Int64))), .second, .val (.ref b186), .val (.int (1 : Int32)), .unset, .unset]) rfl k) ?_
    show own_Go _ _ _ _ (T188.setTop (mkF m 52 #[.val (.long u0), .second, .val (.long u1), .second, .val (.int u2), .val (.int (1 : Int32)), .val (.long (u1 - (u1 / (40000000000 : Int64)) * (40000000000 : Int64))), .second, .val (.ref b186), .val (.int (1 : Int32)), .unset, .unset] []))
    refine own_st (fun _ k => XS.iload X188.here hx rfl (hb hby at_52) rfl k) ?_
    show own_Go _ _ _ _ (T188.setTop (mkF m 54 #[.val (.long u0), .second, .val (.long u1), .second, .val (.int u2), .val (.int (1 : Int32)), .val (.long (u1 - (u1 / (40000000000 : Int64)) * (40000000000 : Int64))), .second, .val (.ref b186), .val (.int (1 : Int32)), .unset, .unset] [(.int (1 : Int32))]))
    refine own_st (fun _ k => XS.ifNo X188.here hx rfl (hb hby at_54) rfl ((if0 _ _).trans (feq (by decide : ¬ ((1 : Int32) = (0 : Int32)))).1) k) ?_
    show own_Go _ _ _ _ (T188.setTop (mkF m 57 #[.val (.long u0), .second, .val (.long u1), .second, .val (.int u2), .val (.int (1 : Int32)), .val (.long (u1 - (u1 / (40000000000 : Int64)) * (40000000000 : Int64))), .second, .val (.ref b186), .val (.int (1 : Int32)), .unset, .unset] []))
    refine own_st (fun _ k => XS.aload X188.here hx rfl (hb hby at_57) rfl rfl k) ?_
    show own_Go _ _ _ _ (T188.setTop (mkF m 59 #[.val (.long u0), .second, .val (.long u1), .second, .val (.int u2), .val (.int (1 : Int32)), .val (.long (u1 - (u1 / (40000000000 : Int64)) * (40000000000 : Int64))), .second, .val (.ref b186), .val (.int (1 : Int32)), .unset, .unset] [(.ref b186)]))
    obtain ⟨cq189, kq189, q189a, q189b, q189c⟩ := isOf hZ eq188 z187_E_b186
    obtain ⟨_, _, ⟨T189, L189, k189, n189⟩, -, X189, ⟨Lc189, hQ189, l189, y189, z189⟩, st189⟩ := X188.virtualBack hx (y := (⟨"com/example/troskel/troskel/service/RetransmissionTimer", "provisional", "()V"⟩ : MethodName)) (z := (⟨"com/example/troskel/troskel/service/RetransmissionTimer", "provisional", "()V"⟩ : MethodName)) hown (mvT hZ (hw _ (List.mem_of_getElem? (i := 38) rfl))) (mvT hZ (hw _ (List.mem_of_getElem? (i := 39) rfl))) (notFace_of_selects (args := #[]) (mvT hZ (hw _ (List.mem_of_getElem? (i := 41) rfl)))) (mvT hZ (hw _ (List.mem_of_getElem? (i := 41) rfl))) (mvT hZ (hw _ (List.mem_of_getElem? (i := 40) rfl))) (by decide) (backOf (W := 0) (rm7 l Z a0 hw [] b186  (.long (500000000 : Int64)) (.long (u0 + (32000000000 : Int64))) (.long (u0 + (500000000 : Int64))) (.int (0 : Int32)) T187.heap n0 Z187 z187_E_b186 gnb186 Fq187_interval Fq187_timeoutAt Fq187_next Fq187_proceeding ) hZ (hw _ (List.mem_of_getElem? (i := 42) rfl)) (hw _ (List.mem_of_getElem? (i := 3) rfl)) (by decide) (by decide)) q189a q189c (g := (mkF m 59 #[.val (.long u0), .second, .val (.long u1), .second, .val (.int u2), .val (.int (1 : Int32)), .val (.long (u1 - (u1 / (40000000000 : Int64)) * (40000000000 : Int64))), .second, .val (.ref b186), .val (.int (1 : Int32)), .unset, .unset] [(.ref b186)])) rfl (by rw [hml]; rfl) (Steps.refl _) (argsL := []) (rest := []) (lenOf own_pd4 rfl) rfl (by show 2 * 0 + _ ≤ _; exact Nat.le_of_eq rfl) (hb hby at_59) (fun _ _ => ⟨rfl, eq188, (by decide : 1 + 0 ≤ _), (by decide : 4 + 0 ≤ _)⟩)
    dsimp only [Pt.U, Pt.locs, Pt.cells, Pt.slots] at X189 l189 y189 z189 st189 hQ189
    rw [l189, y189, z189] at X189
    obtain ⟨rfl, Nq189, Kq189, Eq189, Fq189_interval, Fq189_timeoutAt, Fq189_next, Fq189_proceeding⟩ := hQ189
    have N189 := Fr.app N188 Nq189
    refine own_tr st189 ?_
    have z189_E_b186 := z187_E_b186.keep Kq189
    have Z189 : n0 ≤ T189.heap.size := Nat.le_trans Z187 Kq189.1
    have Kk189 : Keep h0 T189.heap [] := Kk187.trans Kq189 (allS (Or.inr gkb186) all0)
    show own_Go _ _ _ _ (T189.setTop (mkF m 62 #[.val (.long u0), .second, .val (.long u1), .second, .val (.int u2), .val (.int (1 : Int32)), .val (.long (u1 - (u1 / (40000000000 : Int64)) * (40000000000 : Int64))), .second, .val (.ref b186), .val (.int (1 : Int32)), .unset, .unset] []))
    refine own_st (fun _ k => XS.aload X189.here hx rfl (hb hby at_62) rfl rfl k) ?_
    show own_Go _ _ _ _ (T189.setTop (mkF m 64 #[.val (.long u0), .second, .val (.long u1), .second, .val (.int u2), .val (.int (1 : Int32)), .val (.long (u1 - (u1 / (40000000000 : Int64)) * (40000000000 : Int64))), .second, .val (.ref b186), .val (.int (1 : Int32)), .unset, .unset] [(.ref b186)]))
    refine own_st (fun _ k => XS.lloadN X189.here hx rfl (hb hby at_64) rfl k) ?_
    show own_Go _ _ _ _ (T189.setTop (mkF m 65 #[.val (.long u0), .second, .val (.long u1), .second, .val (.int u2), .val (.int (1 : Int32)), .val (.long (u1 - (u1 / (40000000000 : Int64)) * (40000000000 : Int64))), .second, .val (.ref b186), .val (.int (1 : Int32)), .unset, .unset] [(.long u0), (.ref b186)]))
    refine own_st (fun _ k => XS.lload X189.here hx rfl (hb hby at_65) rfl k) ?_
    show own_Go _ _ _ _ (T189.setTop (mkF m 67 #[.val (.long u0), .second, .val (.long u1), .second, .val (.int u2), .val (.int (1 : Int32)), .val (.long (u1 - (u1 / (40000000000 : Int64)) * (40000000000 : Int64))), .second, .val (.ref b186), .val (.int (1 : Int32)), .unset, .unset] [(.long (u1 - (u1 / (40000000000 : Int64)) * (40000000000 : Int64))), (.long u0), (.ref b186)]))
    refine own_st (fun _ k => XS.ladd X189.here hx rfl (hb hby at_67) rfl k) ?_
    show own_Go _ _ _ _ (T189.setTop (mkF m 68 #[.val (.long u0), .second, .val (.long u1), .second, .val (.int u2), .val (.int (1 : Int32)), .val (.long (u1 - (u1 / (40000000000 : Int64)) * (40000000000 : Int64))), .second, .val (.ref b186), .val (.int (1 : Int32)), .unset, .unset] [(.long (u0 + (u1 - (u1 / (40000000000 : Int64)) * (40000000000 : Int64)))), (.ref b186)]))
    obtain ⟨cq190, kq190, q190a, q190b, q190c⟩ := isOf hZ rfl z189_E_b186
    obtain ⟨_, _, ⟨T190, L190, k190, n190⟩, -, X190, ⟨Lc190, hQ190, l190, y190, z190⟩, st190⟩ := X189.virtualBack hx (y := (⟨"com/example/troskel/troskel/service/RetransmissionTimer", "retransmits", "(J)Z"⟩ : MethodName)) (z := (⟨"com/example/troskel/troskel/service/RetransmissionTimer", "retransmits", "(J)Z"⟩ : MethodName)) hown (mvT hZ (hw _ (List.mem_of_getElem? (i := 24) rfl))) (mvT hZ (hw _ (List.mem_of_getElem? (i := 25) rfl))) (notFace_of_selects (args := #[]) (mvT hZ (hw _ (List.mem_of_getElem? (i := 27) rfl)))) (mvT hZ (hw _ (List.mem_of_getElem? (i := 27) rfl))) (mvT hZ (hw _ (List.mem_of_getElem? (i := 26) rfl))) (by decide) (backOf (W := 0) (rm4_1 l Z a0 hw [] b186 u0 (u1 - (u1 / (40000000000 : Int64)) * (40000000000 : Int64)) T189.heap n0 Z189 z189_E_b186 gnb186 Fq189_interval Fq189_timeoutAt Fq189_next Fq189_proceeding hk) hZ (hw _ (List.mem_of_getElem? (i := 28) rfl)) (hw _ (List.mem_of_getElem? (i := 3) rfl)) (by decide) (by decide)) q190a q190c (g := (mkF m 68 #[.val (.long u0), .second, .val (.long u1), .second, .val (.int u2), .val (.int (1 : Int32)), .val (.long (u1 - (u1 / (40000000000 : Int64)) * (40000000000 : Int64))), .second, .val (.ref b186), .val (.int (1 : Int32)), .unset, .unset] [(.long (u0 + (u1 - (u1 / (40000000000 : Int64)) * (40000000000 : Int64)))), (.ref b186)])) rfl (by rw [hml]; rfl) (Steps.refl _) (argsL := [(.long (u0 + (u1 - (u1 / (40000000000 : Int64)) * (40000000000 : Int64))))]) (rest := []) (lenOf own_pd2 rfl) rfl (by show 2 * 0 + _ ≤ _; exact Nat.le_of_eq rfl) (hb hby at_68) (fun _ _ => ⟨rfl, rfl, (by decide : 1 + 0 ≤ _), (by decide : 4 + 0 ≤ _)⟩)
    dsimp only [Pt.U, Pt.locs, Pt.cells, Pt.slots] at X190 l190 y190 z190 st190 hQ190
    rw [l190, y190, z190] at X190
    obtain ⟨r190, rfl, Nq190, Kq190, Eq190, Fn190, Ft190⟩ := hQ190
    have N190 := Fr.app N189 Nq190
    refine own_tr st190 ?_
    have z190_E_b186 := z189_E_b186.keep Kq190
    have Z190 : n0 ≤ T190.heap.size := Nat.le_trans Z189 Kq190.1
    have Kk190 : Keep h0 T190.heap [] := Kk189.trans Kq190 (allS (Or.inr gkb186) all0)
    show own_Go _ _ _ _ (T190.setTop (mkF m 71 #[.val (.long u0), .second, .val (.long u1), .second, .val (.int u2), .val (.int (1 : Int32)), .val (.long (u1 - (u1 / (40000000000 : Int64)) * (40000000000 : Int64))), .second, .val (.ref b186), .val (.int (1 : Int32)), .unset, .unset] [(.int r190)]))
    refine own_st (fun _ k => XS.pop X190.here hx rfl (hb hby at_71) rfl rfl k) ?_
    show own_Go _ _ _ _ (T190.setTop (mkF m 72 #[.val (.long u0), .second, .val (.long u1), .second, .val (.int u2), .val (.int (1 : Int32)), .val (.long (u1 - (u1 / (40000000000 : Int64)) * (40000000000 : Int64))), .second, .val (.ref b186), .val (.int (1 : Int32)), .unset, .unset] []))
    refine own_st (fun _ k => XS.lloadN X190.here hx rfl (hb hby at_72) rfl k) ?_
    show own_Go _ _ _ _ (T190.setTop (mkF m 73 #[.val (.long u0), .second, .val (.long u1), .second, .val (.int u2), .val (.int (1 : Int32)), .val (.long (u1 - (u1 / (40000000000 : Int64)) * (40000000000 : Int64))), .second, .val (.ref b186), .val (.int (1 : Int32)), .unset, .unset] [(.long u0)]))
    refine own_st (fun _ k => XS.lload X190.here hx rfl (hb hby at_73) rfl k) ?_
    show own_Go _ _ _ _ (T190.setTop (mkF m 75 #[.val (.long u0), .second, .val (.long u1), .second, .val (.int u2), .val (.int (1 : Int32)), .val (.long (u1 - (u1 / (40000000000 : Int64)) * (40000000000 : Int64))), .second, .val (.ref b186), .val (.int (1 : Int32)), .unset, .unset] [(.long (u1 - (u1 / (40000000000 : Int64)) * (40000000000 : Int64))), (.long u0)]))
    refine own_st (fun _ k => XS.iload X190.here hx rfl (hb hby at_75) rfl k) ?_
    show own_Go _ _ _ _ (T190.setTop (mkF m 77 #[.val (.long u0), .second, .val (.long u1), .second, .val (.int u2), .val (.int (1 : Int32)), .val (.long (u1 - (u1 / (40000000000 : Int64)) * (40000000000 : Int64))), .second, .val (.ref b186), .val (.int (1 : Int32)), .unset, .unset] [(.int (1 : Int32)), (.long (u1 - (u1 / (40000000000 : Int64)) * (40000000000 : Int64))), (.long u0)]))
    obtain ⟨_, _, ⟨T191, L191, k191, n191⟩, -, X191, ⟨Lc191, hQ191, l191, y191, z191⟩, st191⟩ := Jvm.LawKit.callS X190 hx (y := (⟨"com/example/troskel/troskel/service/RetransmissionTimerDueNanosPinLaw", "expectedOffset", "(JZ)J"⟩ : MethodName)) hown (mvT hZ (hw _ (List.mem_of_getElem? (i := 34) rfl))) (mvT hZ (hw _ (List.mem_of_getElem? (i := 35) rfl))) (mvT hZ (hw _ (List.mem_of_getElem? (i := 36) rfl))) (mvT hZ (hw _ (List.mem_of_getElem? (i := 37) rfl))) (by decide) (backOf (W := 2) (rm6 l Z a0 hw [] (u1 - (u1 / (40000000000 : Int64)) * (40000000000 : Int64)) (1 : Int32) T190.heap n0 Z190 ) hZ (hw _ (List.mem_of_getElem? (i := 37) rfl)) (hw _ (List.mem_of_getElem? (i := 36) rfl)) (by decide) (by decide)) (g := (mkF m 77 #[.val (.long u0), .second, .val (.long u1), .second, .val (.int u2), .val (.int (1 : Int32)), .val (.long (u1 - (u1 / (40000000000 : Int64)) * (40000000000 : Int64))), .second, .val (.ref b186), .val (.int (1 : Int32)), .unset, .unset] [(.int (1 : Int32)), (.long (u1 - (u1 / (40000000000 : Int64)) * (40000000000 : Int64))), (.long u0)])) rfl (by rw [hml]; rfl) (argsL := [(.long (u1 - (u1 / (40000000000 : Int64)) * (40000000000 : Int64))), (.int (1 : Int32))]) (rest := [(.long u0)]) (lenOf own_pd5 rfl) rfl (by show 2 * 0 + _ ≤ _; exact Nat.le_of_eq rfl) (hb hby at_77) (fun _ _ => ⟨rfl, rfl, (by decide : 1 + 0 ≤ _), (by decide : 4 + 0 ≤ _)⟩)
    dsimp only [Pt.U, Pt.locs, Pt.cells, Pt.slots] at X191 l191 y191 z191 st191 hQ191
    rw [l191, y191, z191] at X191
    obtain ⟨rfl, Nq191, eq191⟩ := hQ191
    have N191 := Fr.app N190 Nq191
    refine own_st st191 ?_
    show own_Go _ _ _ _ (T191.setTop (mkF m 80 #[.val (.long u0), .second, .val (.long u1), .second, .val (.int u2), .val (.int (1 : Int32)), .val (.long (u1 - (u1 / (40000000000 : Int64)) * (40000000000 : Int64))), .second, .val (.ref b186), .val (.int (1 : Int32)), .unset, .unset] [(.long (own_eo (u1 - (u1 / (40000000000 : Int64)) * (40000000000 : Int64)) (1 : Int32))), (.long u0)]))
    refine own_st (fun _ k => XS.ladd X191.here hx rfl (hb hby at_80) rfl k) ?_
    show own_Go _ _ _ _ (T191.setTop (mkF m 81 #[.val (.long u0), .second, .val (.long u1), .second, .val (.int u2), .val (.int (1 : Int32)), .val (.long (u1 - (u1 / (40000000000 : Int64)) * (40000000000 : Int64))), .second, .val (.ref b186), .val (.int (1 : Int32)), .unset, .unset] [(.long (u0 + (own_eo (u1 - (u1 / (40000000000 : Int64)) * (40000000000 : Int64)) (1 : Int32))))]))
    refine own_st (fun _ k => XS.lstore X191.here hx rfl (hb hby at_81) rfl (l' := #[.val (.long u0), .second, .val (.long u1), .second, .val (.int u2), .val (.int (1 : Int32)), .val (.long (u1 - (u1 / (40000000000 : Int64)) * (40000000000 : Int64))), .second, .val (.ref b186), .val (.int (1 : Int32)), .val (.long (u0 + (own_eo (u1 - (u1 / (40000000000 : Int64)) * (40000000000 : Int64)) (1 : Int32)))), .second]) rfl k) ?_
    show own_Go _ _ _ _ (T191.setTop (mkF m 83 #[.val (.long u0), .second, .val (.long u1), .second, .val (.int u2), .val (.int (1 : Int32)), .val (.long (u1 - (u1 / (40000000000 : Int64)) * (40000000000 : Int64))), .second, .val (.ref b186), .val (.int (1 : Int32)), .val (.long (u0 + (own_eo (u1 - (u1 / (40000000000 : Int64)) * (40000000000 : Int64)) (1 : Int32)))), .second] []))
    refine own_st (fun _ k => XS.iload X191.here hx rfl (hb hby at_83) rfl k) ?_
    show own_Go _ _ _ _ (T191.setTop (mkF m 85 #[.val (.long u0), .second, .val (.long u1), .second, .val (.int u2), .val (.int (1 : Int32)), .val (.long (u1 - (u1 / (40000000000 : Int64)) * (40000000000 : Int64))), .second, .val (.ref b186), .val (.int (1 : Int32)), .val (.long (u0 + (own_eo (u1 - (u1 / (40000000000 : Int64)) * (40000000000 : Int64)) (1 : Int32)))), .second] [(.int (1 : Int32))]))
    refine own_st (fun _ k => XS.ifNo X191.here hx rfl (hb hby at_85) rfl ((if0 _ _).trans (feq (by decide : ¬ ((1 : Int32) = (0 : Int32)))).1) k) ?_
    show own_Go _ _ _ _ (T191.setTop (mkF m 88 #[.val (.long u0), .second, .val (.long u1), .second, .val (.int u2), .val (.int (1 : Int32)), .val (.long (u1 - (u1 / (40000000000 : Int64)) * (40000000000 : Int64))), .second, .val (.ref b186), .val (.int (1 : Int32)), .val (.long (u0 + (own_eo (u1 - (u1 / (40000000000 : Int64)) * (40000000000 : Int64)) (1 : Int32)))), .second] []))
    refine own_st (fun _ k => XS.aload X191.here hx rfl (hb hby at_88) rfl rfl k) ?_
    show own_Go _ _ _ _ (T191.setTop (mkF m 90 #[.val (.long u0), .second, .val (.long u1), .second, .val (.int u2), .val (.int (1 : Int32)), .val (.long (u1 - (u1 / (40000000000 : Int64)) * (40000000000 : Int64))), .second, .val (.ref b186), .val (.int (1 : Int32)), .val (.long (u0 + (own_eo (u1 - (u1 / (40000000000 : Int64)) * (40000000000 : Int64)) (1 : Int32)))), .second] [(.ref b186)]))
    obtain ⟨cq192, kq192, q192a, q192b, q192c⟩ := isOf hZ eq191 z190_E_b186
    obtain ⟨_, _, ⟨T192, L192, k192, n192⟩, -, X192, ⟨Lc192, hQ192, l192, y192, z192⟩, st192⟩ := X191.virtualBack hx (y := (⟨"com/example/troskel/troskel/service/RetransmissionTimer", "dueNanos", "()J"⟩ : MethodName)) (z := (⟨"com/example/troskel/troskel/service/RetransmissionTimer", "dueNanos", "()J"⟩ : MethodName)) hown (mvT hZ (hw _ (List.mem_of_getElem? (i := 18) rfl))) (mvT hZ (hw _ (List.mem_of_getElem? (i := 19) rfl))) (notFace_of_selects (args := #[]) (mvT hZ (hw _ (List.mem_of_getElem? (i := 21) rfl)))) (mvT hZ (hw _ (List.mem_of_getElem? (i := 21) rfl))) (mvT hZ (hw _ (List.mem_of_getElem? (i := 20) rfl))) (by decide) (backOf (W := 0) (rm3 l Z a0 hw [] b186  (own_nx1 u0 (u1 - (u1 / (40000000000 : Int64)) * (40000000000 : Int64))) (u0 + (32000000000 : Int64)) T190.heap n0 Z190 Fn190 Ft190 ) hZ (hw _ (List.mem_of_getElem? (i := 22) rfl)) (hw _ (List.mem_of_getElem? (i := 3) rfl)) (by decide) (by decide)) q192a q192c (g := (mkF m 90 #[.val (.long u0), .second, .val (.long u1), .second, .val (.int u2), .val (.int (1 : Int32)), .val (.long (u1 - (u1 / (40000000000 : Int64)) * (40000000000 : Int64))), .second, .val (.ref b186), .val (.int (1 : Int32)), .val (.long (u0 + (own_eo (u1 - (u1 / (40000000000 : Int64)) * (40000000000 : Int64)) (1 : Int32)))), .second] [(.ref b186)])) rfl (by rw [hml]; rfl) (Steps.refl _) (argsL := []) (rest := []) (lenOf own_pd3 rfl) rfl (by show 2 * 0 + _ ≤ _; exact Nat.le_of_eq rfl) (hb hby at_90) (fun _ _ => ⟨rfl, eq191, (by decide : 1 + 0 ≤ _), (by decide : 4 + 0 ≤ _)⟩)
    dsimp only [Pt.U, Pt.locs, Pt.cells, Pt.slots] at X192 l192 y192 z192 st192 hQ192
    rw [l192, y192, z192] at X192
    obtain ⟨rfl, Nq192, eq192⟩ := hQ192
    have N192 := Fr.app N191 Nq192
    refine own_tr st192 ?_
    show own_Go _ _ _ _ (T192.setTop (mkF m 93 #[.val (.long u0), .second, .val (.long u1), .second, .val (.int u2), .val (.int (1 : Int32)), .val (.long (u1 - (u1 / (40000000000 : Int64)) * (40000000000 : Int64))), .second, .val (.ref b186), .val (.int (1 : Int32)), .val (.long (u0 + (own_eo (u1 - (u1 / (40000000000 : Int64)) * (40000000000 : Int64)) (1 : Int32)))), .second] [(.long (own_due (own_nx1 u0 (u1 - (u1 / (40000000000 : Int64)) * (40000000000 : Int64))) (u0 + (32000000000 : Int64))))]))
    refine own_st (fun _ k => XS.lload X192.here hx rfl (hb hby at_93) rfl k) ?_
    show own_Go _ _ _ _ (T192.setTop (mkF m 95 #[.val (.long u0), .second, .val (.long u1), .second, .val (.int u2), .val (.int (1 : Int32)), .val (.long (u1 - (u1 / (40000000000 : Int64)) * (40000000000 : Int64))), .second, .val (.ref b186), .val (.int (1 : Int32)), .val (.long (u0 + (own_eo (u1 - (u1 / (40000000000 : Int64)) * (40000000000 : Int64)) (1 : Int32)))), .second] [(.long (u0 + (own_eo (u1 - (u1 / (40000000000 : Int64)) * (40000000000 : Int64)) (1 : Int32)))), (.long (own_due (own_nx1 u0 (u1 - (u1 / (40000000000 : Int64)) * (40000000000 : Int64))) (u0 + (32000000000 : Int64))))]))
    refine own_st (fun _ k => XS.lcmp X192.here hx rfl (hb hby at_95) rfl k) ?_
    show own_Go _ _ _ _ (T192.setTop (mkF m 96 #[.val (.long u0), .second, .val (.long u1), .second, .val (.int u2), .val (.int (1 : Int32)), .val (.long (u1 - (u1 / (40000000000 : Int64)) * (40000000000 : Int64))), .second, .val (.ref b186), .val (.int (1 : Int32)), .val (.long (u0 + (own_eo (u1 - (u1 / (40000000000 : Int64)) * (40000000000 : Int64)) (1 : Int32)))), .second] [(.int (lcmpW (own_due (own_nx1 u0 (u1 - (u1 / (40000000000 : Int64)) * (40000000000 : Int64))) (u0 + (32000000000 : Int64))) (u0 + (own_eo (u1 - (u1 / (40000000000 : Int64)) * (40000000000 : Int64)) (1 : Int32)))))]))
    refine own_st (fun _ k => XS.ifNo X192.here hx rfl (hb hby at_96) rfl ((if0 _ _).trans (teq (own_fin1 _ _ hk)).2) k) ?_
    show own_Go _ _ _ _ (T192.setTop (mkF m 99 #[.val (.long u0), .second, .val (.long u1), .second, .val (.int u2), .val (.int (1 : Int32)), .val (.long (u1 - (u1 / (40000000000 : Int64)) * (40000000000 : Int64))), .second, .val (.ref b186), .val (.int (1 : Int32)), .val (.long (u0 + (own_eo (u1 - (u1 / (40000000000 : Int64)) * (40000000000 : Int64)) (1 : Int32)))), .second] []))
    refine own_st (fun _ k => XS.iconst X192.here hx rfl (hb hby at_99) k) ?_
    show own_Go _ _ _ _ (T192.setTop (mkF m 100 #[.val (.long u0), .second, .val (.long u1), .second, .val (.int u2), .val (.int (1 : Int32)), .val (.long (u1 - (u1 / (40000000000 : Int64)) * (40000000000 : Int64))), .second, .val (.ref b186), .val (.int (1 : Int32)), .val (.long (u0 + (own_eo (u1 - (u1 / (40000000000 : Int64)) * (40000000000 : Int64)) (1 : Int32)))), .second] [(.int (1 : Int32))]))
    refine own_st (fun _ k => XS.goto X192.here hx rfl (pc0 := 100) (pc' := 104) rfl (hb hby at_100) (by decide) (by decide) k) ?_
    show own_Go _ _ _ _ (T192.setTop (mkF m 104 #[.val (.long u0), .second, .val (.long u1), .second, .val (.int u2), .val (.int (1 : Int32)), .val (.long (u1 - (u1 / (40000000000 : Int64)) * (40000000000 : Int64))), .second, .val (.ref b186), .val (.int (1 : Int32)), .val (.long (u0 + (own_eo (u1 - (u1 / (40000000000 : Int64)) * (40000000000 : Int64)) (1 : Int32)))), .second] [(.int (1 : Int32))]))
    obtain ⟨fs, hr, hrun, hended, hW, hsame⟩ := X192.leave (v := some (.int (1 : Int32))) (fun h => by rw [Bd.returns] at h; cases h)
    refine own_out (retN X192 hx (t := .boolean) Bd.returns (by simp) (hb hby at_104) hr) ⟨hrun, hended, _, _, rfl, ?_, ⟨_, rfl⟩, hW, hsame.mono (by decide) (by decide)⟩
    show Q0 Z u0 u1 u2 h0 n0 _ T192.heap _
    exact ⟨rfl, N192⟩
set_option maxRecDepth 65536 in
set_option maxHeartbeats 40000000 in
theorem comes_1 {Post : Tables → Env → Array Value → State → Outcome → State → Prop} (hpost : ∀ tb e args s v u, (limb_1_1.after args s (.returned v) u = true ∧ limb_1_2.after args s (.returned v) u = true ∧ True) → FrameEnd s (.returned v) u (Jvm.fieldLocs frame_1_writes args s ++ Jvm.arrayLocs frame_1_arrays args s ++ Jvm.staticLocs frame_1_statics s) 16 128 → Post tb e args s (.returned v) u) :
    ArmFor flags0 classFile x code maxLocals ret World_1 tables_1 room_1 Calls_1 rest_1 Pre_1 Post := by
  intro l hfl _ _ p e ha hc hk s m args below hf hA hF happ hP
  obtain ⟨hcalls, hrest, hpre⟩ := hP
  obtain ⟨-, -, -, hnamed, -, -, -, hat⟩ := (Spec.applies_iff hf).mp happ
  obtain ⟨hg, hn⟩ := and_e (Cond.before_iff.mp (show (Jvm.Cond.and given_1 narrow_1).before args s = true from hpre))
  obtain ⟨h1, h2⟩ := and_e hg
  obtain ⟨ha0, h2⟩ := and_e h2
  obtain ⟨ha1, h2⟩ := and_e h2
  have ha2 := h2
  obtain ⟨w0, w1, w2, rfl⟩ : ∃ w0 w1 w2 : Value, args = #[w0, w1, w2] := by
    have hs : args.size = 3 := by simpa [Cond.value, given_1] using h1
    obtain ⟨L⟩ := args
    match L, hs with
    | [w0, w1, w2], _ => exact ⟨w0, w1, w2, rfl⟩
  have hw := fun d (hd : d ∈ tables_1) => atoms_spec (ws := Jvm.Cond.code x code maxLocals ret :: tables_1) hat d (List.mem_cons_of_mem _ hd)
  obtain ⟨i0, ei0⟩ := isL_v ha0
  obtain rfl : w0 = (.long i0) := Option.some.inj ei0
  obtain ⟨i1, ei1⟩ := isL_v ha1
  obtain rfl : w1 = (.long i1) := Option.some.inj ei1
  obtain ⟨i2, ei2⟩ := is_v ha2
  obtain rfl : w2 = (.int i2) := Option.some.inj ei2
  obtain ⟨n, o, h1, h2, h3, _, L, rfl, ⟨rfl, N⟩, hq⟩ := rm0 l s _ hw tables_1 i0 i1 i2 s.heap s.heap.size (Nat.le_refl _)  p e ha hc hk s m _ below hf ((Spec.applies_iff_loose hf).mp happ).1 ⟨rfl, State.Warmed39.refl s, rfl⟩ trivial
  refine ⟨n, _, h1, h2, h3, hpost _ _ _ _ _ _ ⟨Cond.after_iff.mpr rfl, Cond.after_iff.mpr (eq_i res_at (Term.int_eval (1)) rfl), trivial⟩ ⟨hq.1, hq.2.1, (hq.2.2.sift fun y hy => Or.inr (N y hy)).mono (by decide) (by decide)⟩⟩
theorem main_1_1 : Claimed_1_1 := comes_1 fun _ _ _ _ _ _ h hF => ⟨h.1, hF⟩
theorem main_1_2 : Claimed_1_2 := comes_1 fun _ _ _ _ _ _ h hF => ⟨h.2.1, hF⟩
end Jvm.Pilot.@@N@@
namespace Jvm.Pilot.@@N@@
open Jvm Jvm.ClassFile Sem Op Lib Jvm.Free Jvm.Stand Jvm.Pilot.@@N@@.Jvm.D
/-! MADE BY PROGRAM (witnessworld.py) out of the Statement's table words and the real class files: 10 classes; the members and pool entries that the words name. The judged class is class 1, her method 2. -/
namespace start1
open Jvm.ClassFile
def u (s : String) : CpInfo := .utf8 (stringToUtf16 s)
/-- a pool by its gaps: so many unusable entries, then the entry; so many at the end -/
def gap : Nat → List CpInfo → List CpInfo
  | 0, r => r
  | n + 1, r => .unusable :: gap n r
def poolList (es : List (Nat × CpInfo)) (last : Nat) : List CpInfo := es.foldr (fun e r => gap e.1 (e.2 :: r)) (gap last [])
def pool (es : List (Nat × CpInfo)) (last : Nat) : Array CpInfo := ⟨poolList es last⟩
def fileOf (pool : Array CpInfo) (this : Nat) (attrs : Array Attribute := #[]) (ms : Array MethodInfo := #[]) (fl : Nat := 33) (sup : Nat := 0) (ifs : Array Nat := #[]) (fds : Array FieldInfo := #[]) : ClassFile where
  minorVersion := 0
  majorVersion := 65
  constantPool := pool
  accessFlags := fl
  thisClass := this
  superClass := sup
  interfaces := ifs
  fields := fds
  methods := ms
  attributes := attrs
def plain (name : String) (sup : Option ClassId) : Class where
  name := name
  kind := .ordinary
  loader := none
  accessFlags := 33
  super := sup
  interfaces := #[]
  cf := none
  fields := #[]
  methods := #[]
  instanceTypes := #[]
  staticTypes := #[]
  resolved := #[]
  callSites := []
  init := .initialized
  statics := none
  mirror := none

def pool0 : Array CpInfo := pool [(5, u "<init>"), (0, u "()V"), (1, .class_ 10), (1, u "java/lang/Object")] 113

def k0c0 : Code := { maxStack := 0, maxLocals := 1, code := object_method_1_code, exceptionTable := #[], attributes := #[] }
def k0m0 : Method := { name := "<init>", desc := "()V", sig := { parameters := [], returnType := none }, accessFlags := 1, code := some k0c0 }
/-- java/lang/Object -/
def k0 : Class := { plain "java/lang/Object" none with
  accessFlags := 33
  interfaces := #[]
  cf := some (fileOf pool0 8 #[] #[{ accessFlags := 1, nameIndex := 5, descriptorIndex := 6, attributes := #[] }] 33 0 #[] #[])
  fields := #[]
  methods := #[k0m0]
  instanceTypes := #[]
  staticTypes := #[]
  resolved := Array.replicate 124 none
  statics := none }

def pool1 : Array CpInfo := pool [(2, .class_ 4), (1, u "java/lang/Object"), (0, u "<init>"), (0, u "()V"), (0, .class_ 8), (0, u "com/example/troskel/troskel/service/RetransmissionTimerDueNanosPinLaw"), (0, .long 500000000), (1, .long 32000000000), (1, .long 4000000000), (1, .long 1500000000), (1, .long 3500000000), (1, .long 7500000000), (1, .methodref 22 23), (0, .class_ 24), (0, .nameAndType 25 26), (0, u "java/lang/Math"), (0, u "min"), (0, u "(JJ)J"), (0, .long 40000000000), (1, .class_ 30), (0, u "com/example/troskel/troskel/service/RetransmissionTimer"), (0, .methodref 29 32), (0, .nameAndType 5 33), (0, u "(J)V"), (0, .methodref 29 35), (0, .nameAndType 36 37), (0, u "dueNanos"), (0, u "()J"), (0, .methodref 29 39), (0, .nameAndType 40 6), (0, u "provisional"), (0, .methodref 29 42), (0, .nameAndType 43 44), (0, u "retransmits"), (0, u "(J)Z"), (0, .methodref 7 46), (0, .nameAndType 47 48), (0, u "expectedOffset"), (0, u "(JZ)J"), (0, u "T1"), (0, u "J"), (1, u "T2"), (0, u "TO"), (3, u "law"), (0, u "(JJI)Z")] 2

def k1m0 : Method := { name := "<init>", desc := "()V", sig := { parameters := [], returnType := none }, accessFlags := 1, code := none }
def k1c1 : Code := { maxStack := 8, maxLocals := 5, code := method_2_code, exceptionTable := #[], attributes := #[] }
def k1m1 : Method := { name := "expectedOffset", desc := "(JZ)J", sig := { parameters := [.long, .boolean], returnType := some .long }, accessFlags := 10, code := some k1c1 }
def k1c2 : Code := { maxStack := 6, maxLocals := 12, code := code, exceptionTable := #[], attributes := #[] }
def k1m2 : Method := { name := "law", desc := "(JJI)Z", sig := { parameters := [.long, .long, .int], returnType := some .boolean }, accessFlags := 9, code := some k1c2 }
/-- com/example/troskel/troskel/service/RetransmissionTimerDueNanosPinLaw -/
def k1 : Class := { plain "com/example/troskel/troskel/service/RetransmissionTimerDueNanosPinLaw" (some 0) with
  accessFlags := 49
  interfaces := #[]
  cf := some (fileOf pool1 7 #[] #[{ accessFlags := 1, nameIndex := 5, descriptorIndex := 6, attributes := #[] }, { accessFlags := 10, nameIndex := 47, descriptorIndex := 48, attributes := #[] }, { accessFlags := 9, nameIndex := 57, descriptorIndex := 58, attributes := #[] }] 49 2 #[] #[{ accessFlags := 26, nameIndex := 49, descriptorIndex := 50, attributes := #[] }, { accessFlags := 26, nameIndex := 52, descriptorIndex := 50, attributes := #[] }, { accessFlags := 26, nameIndex := 53, descriptorIndex := 50, attributes := #[] }])
  fields := #[{ name := "T1", type := .long, accessFlags := 26, slot := 0, constantValue := 0 }, { name := "T2", type := .long, accessFlags := 26, slot := 1, constantValue := 0 }, { name := "TO", type := .long, accessFlags := 26, slot := 2, constantValue := 0 }]
  methods := #[k1m0, k1m1, k1m2]
  instanceTypes := #[]
  staticTypes := #[.long, .long, .long]
  resolved := Array.replicate 61 none
  statics := none }

def pool2 : Array CpInfo := pool [(1, .class_ 2), (0, u "com/example/troskel/troskel/service/RetransmissionTimer"), (0, .methodref 4 5), (0, .class_ 6), (0, .nameAndType 7 8), (0, u "java/lang/Object"), (0, u "<init>"), (0, u "()V"), (0, .long 500000000), (1, .fieldref 1 12), (0, .nameAndType 13 14), (0, u "interval"), (0, u "J"), (0, .long 32000000000), (1, .fieldref 1 18), (0, .nameAndType 19 14), (0, u "timeoutAt"), (0, .fieldref 1 21), (0, .nameAndType 22 14), (0, u "next"), (0, .methodref 1 24), (0, .nameAndType 25 26), (0, u "timedOut"), (0, u "(J)Z"), (0, .fieldref 1 28), (0, .nameAndType 29 30), (0, u "proceeding"), (0, u "Z"), (0, .long 4000000000), (1, .long 2), (1, .methodref 36 37), (0, .class_ 38), (0, .nameAndType 39 40), (0, u "java/lang/Math"), (0, u "min"), (0, u "(JJ)J"), (0, u "T1_NANOS"), (1, u "T2_NANOS"), (0, u "TIMEOUT_NANOS"), (0, u "(J)V"), (2, u "dueNanos"), (0, u "()J"), (1, u "retransmits"), (0, u "provisional")] 2

def k2c0 : Code := { maxStack := 5, maxLocals := 3, code := prog_49_method_1_code, exceptionTable := #[], attributes := #[] }
def k2m0 : Method := { name := "<init>", desc := "(J)V", sig := { parameters := [.long], returnType := none }, accessFlags := 1, code := some k2c0 }
def k2c1 : Code := { maxStack := 4, maxLocals := 1, code := prog_49_method_2_code, exceptionTable := #[], attributes := #[] }
def k2m1 : Method := { name := "dueNanos", desc := "()J", sig := { parameters := [], returnType := some .long }, accessFlags := 1, code := some k2c1 }
def k2c2 : Code := { maxStack := 4, maxLocals := 3, code := prog_49_method_3_code, exceptionTable := #[], attributes := #[] }
def k2m2 : Method := { name := "timedOut", desc := "(J)Z", sig := { parameters := [.long], returnType := some .boolean }, accessFlags := 1, code := some k2c2 }
def k2c3 : Code := { maxStack := 5, maxLocals := 3, code := prog_49_method_4_code, exceptionTable := #[], attributes := #[] }
def k2m3 : Method := { name := "retransmits", desc := "(J)Z", sig := { parameters := [.long], returnType := some .boolean }, accessFlags := 1, code := some k2c3 }
def k2c4 : Code := { maxStack := 2, maxLocals := 1, code := prog_49_method_5_code, exceptionTable := #[], attributes := #[] }
def k2m4 : Method := { name := "provisional", desc := "()V", sig := { parameters := [], returnType := none }, accessFlags := 1, code := some k2c4 }
/-- com/example/troskel/troskel/service/RetransmissionTimer -/
def k2 : Class := { plain "com/example/troskel/troskel/service/RetransmissionTimer" (some 0) with
  accessFlags := 33
  interfaces := #[]
  cf := some (fileOf pool2 1 #[] #[{ accessFlags := 1, nameIndex := 7, descriptorIndex := 45, attributes := #[] }, { accessFlags := 1, nameIndex := 48, descriptorIndex := 49, attributes := #[] }, { accessFlags := 1, nameIndex := 25, descriptorIndex := 26, attributes := #[] }, { accessFlags := 1, nameIndex := 51, descriptorIndex := 26, attributes := #[] }, { accessFlags := 1, nameIndex := 52, descriptorIndex := 8, attributes := #[] }] 33 4 #[] #[{ accessFlags := 25, nameIndex := 41, descriptorIndex := 14, attributes := #[] }, { accessFlags := 25, nameIndex := 43, descriptorIndex := 14, attributes := #[] }, { accessFlags := 25, nameIndex := 44, descriptorIndex := 14, attributes := #[] }, { accessFlags := 18, nameIndex := 19, descriptorIndex := 14, attributes := #[] }, { accessFlags := 2, nameIndex := 13, descriptorIndex := 14, attributes := #[] }, { accessFlags := 2, nameIndex := 22, descriptorIndex := 14, attributes := #[] }, { accessFlags := 2, nameIndex := 29, descriptorIndex := 30, attributes := #[] }])
  fields := #[{ name := "T1_NANOS", type := .long, accessFlags := 25, slot := 0, constantValue := 0 }, { name := "T2_NANOS", type := .long, accessFlags := 25, slot := 1, constantValue := 0 }, { name := "TIMEOUT_NANOS", type := .long, accessFlags := 25, slot := 2, constantValue := 0 }, { name := "timeoutAt", type := .long, accessFlags := 18, slot := 0, constantValue := 0 }, { name := "interval", type := .long, accessFlags := 2, slot := 1, constantValue := 0 }, { name := "next", type := .long, accessFlags := 2, slot := 2, constantValue := 0 }, { name := "proceeding", type := .boolean, accessFlags := 2, slot := 3, constantValue := 0 }]
  methods := #[k2m0, k2m1, k2m2, k2m3, k2m4]
  instanceTypes := #[.long, .long, .long, .boolean]
  staticTypes := #[.long, .long, .long]
  resolved := Array.replicate 55 none
  statics := none }

def pool3 : Array CpInfo := pool [(1, .class_ 2), (0, u "java/lang/Math"), (1, .class_ 6), (1, u "java/lang/Object"), (0, u "<init>"), (0, u "()V"), (89, .class_ 100), (1, u "java/lang/Math$RandomNumberGeneratorHolder"), (20, u "(JJ)J"), (50, u "negativeZeroFloatBits"), (0, u "J"), (2, u "negativeZeroDoubleBits"), (24, u "min"), (43, u "$assertionsDisabled"), (0, u "Z"), (91, u "twoToTheDoubleScaleDown"), (0, u "D"), (4, u "twoToTheDoubleScaleUp"), (9, u "E"), (3, u "PI"), (2, u "TAU"), (2, u "DEGREES_TO_RADIANS"), (0, u "RADIANS_TO_DEGREES")] 94

def k3m0 : Method := { name := "<init>", desc := "()V", sig := { parameters := [], returnType := none }, accessFlags := 2, code := none }
def k3c1 : Code := { maxStack := 4, maxLocals := 4, code := jdk_29_method_70_code, exceptionTable := #[], attributes := #[] }
def k3m1 : Method := { name := "min", desc := "(JJ)J", sig := { parameters := [.long, .long], returnType := some .long }, accessFlags := 9, code := some k3c1 }
/-- java/lang/Math -/
def k3 : Class := { plain "java/lang/Math" (some 0) with
  accessFlags := 49
  interfaces := #[]
  cf := some (fileOf pool3 1 #[.nestMembers #[98]] #[{ accessFlags := 2, nameIndex := 7, descriptorIndex := 8, attributes := #[] }, { accessFlags := 9, nameIndex := 201, descriptorIndex := 121, attributes := #[] }] 49 4 #[] #[{ accessFlags := 25, nameIndex := 354, descriptorIndex := 339, attributes := #[] }, { accessFlags := 25, nameIndex := 358, descriptorIndex := 339, attributes := #[] }, { accessFlags := 25, nameIndex := 361, descriptorIndex := 339, attributes := #[] }, { accessFlags := 26, nameIndex := 364, descriptorIndex := 339, attributes := #[] }, { accessFlags := 26, nameIndex := 365, descriptorIndex := 339, attributes := #[] }, { accessFlags := 26, nameIndex := 172, descriptorIndex := 173, attributes := #[] }, { accessFlags := 26, nameIndex := 176, descriptorIndex := 173, attributes := #[] }, { accessFlags := 8, nameIndex := 344, descriptorIndex := 339, attributes := #[] }, { accessFlags := 8, nameIndex := 338, descriptorIndex := 339, attributes := #[] }, { accessFlags := 4120, nameIndex := 245, descriptorIndex := 246, attributes := #[] }])
  fields := #[{ name := "E", type := .double, accessFlags := 25, slot := 0, constantValue := 0 }, { name := "PI", type := .double, accessFlags := 25, slot := 1, constantValue := 0 }, { name := "TAU", type := .double, accessFlags := 25, slot := 2, constantValue := 0 }, { name := "DEGREES_TO_RADIANS", type := .double, accessFlags := 26, slot := 3, constantValue := 0 }, { name := "RADIANS_TO_DEGREES", type := .double, accessFlags := 26, slot := 4, constantValue := 0 }, { name := "negativeZeroFloatBits", type := .long, accessFlags := 26, slot := 5, constantValue := 0 }, { name := "negativeZeroDoubleBits", type := .long, accessFlags := 26, slot := 6, constantValue := 0 }, { name := "twoToTheDoubleScaleUp", type := .double, accessFlags := 8, slot := 7, constantValue := 0 }, { name := "twoToTheDoubleScaleDown", type := .double, accessFlags := 8, slot := 8, constantValue := 0 }, { name := "$assertionsDisabled", type := .boolean, accessFlags := 4120, slot := 9, constantValue := 0 }]
  methods := #[k3m0, k3m1]
  instanceTypes := #[]
  staticTypes := #[.double, .double, .double, .double, .double, .long, .long, .double, .double, .boolean]
  resolved := Array.replicate 460 none
  statics := none }

def pool4 : Array CpInfo := pool [(1, u "java/lang/Cloneable"), (0, .class_ 1), (0, u "java/lang/Object"), (0, .class_ 3)] 3

/-- java/lang/Cloneable -/
def k4 : Class := { plain "java/lang/Cloneable" (some 0) with
  accessFlags := 1537
  interfaces := #[]
  cf := some (fileOf pool4 2 #[] #[] 1537 4 #[] #[])
  fields := #[]
  methods := #[]
  instanceTypes := #[]
  staticTypes := #[]
  resolved := Array.replicate 8 none
  statics := none }

def pool5 : Array CpInfo := pool [(1, u "java/io/Serializable"), (0, .class_ 1), (0, u "java/lang/Object"), (0, .class_ 3)] 3

/-- java/io/Serializable -/
def k5 : Class := { plain "java/io/Serializable" (some 0) with
  accessFlags := 1537
  interfaces := #[]
  cf := some (fileOf pool5 2 #[] #[] 1537 4 #[] #[])
  fields := #[]
  methods := #[]
  instanceTypes := #[]
  staticTypes := #[]
  resolved := Array.replicate 8 none
  statics := none }

/-- the primitive byte -/
def k6 : Class := { plain "byte" none with kind := .primitive 'B', accessFlags := 0x411 }
/-- [B -/
def k7 : Class := { plain "[B" (some 0) with kind := .array 6 .byte, interfaces := #[4, 5], accessFlags := 1041 }

/-- the primitive int -/
def k8 : Class := { plain "int" none with kind := .primitive 'I', accessFlags := 0x411 }
/-- [I -/
def k9 : Class := { plain "[I" (some 0) with kind := .array 8 .int, interfaces := #[4, 5], accessFlags := 1041 }

def heap : Heap := #[]
def classes : Array Class := #[k0, k1, k2, k3, k4, k5, k6, k7, k8, k9]
def interned : List (Array UInt16 × Addr) := []
def slotsUsed : Nat := 0
def theMethod : MethodId := ⟨1, 2⟩
def args0 : Array Value := #[.long 5, .long 5, .int 1]
def aboutOver (below : List Frame) : State where
  vm := { classes := classes, interned := interned.toArray }
  heap := heap
  slotsUsed := slotsUsed
  threads := #[{ frames := .invoking theMethod args0 :: below }]
def below0 : List Frame := [.native { method := ⟨0, 0⟩, args := #[] }]
def about1 : State := aboutOver below0
def p0 : Program := .bare "" "" ""
def e0 : Env := launch0.env 0 0 0
theorem w_frames : about1.frames = Frame.invoking theMethod args0 :: below0 := rfl
set_option maxRecDepth 65536 in
theorem w_args : argsFit about1.vm theMethod args0 = true := by decide +kernel
set_option maxRecDepth 65536 in
theorem w_heap : heapFits about1 = true := by decide +kernel
set_option maxRecDepth 65536 in
theorem w_runnable : about1.curStatus? = some .runnable := by decide +kernel
set_option maxRecDepth 65536 in
theorem w_alone : about1.alone = true := by decide +kernel
set_option maxRecDepth 65536 in
theorem w_named : about1.methodNamed? x = some theMethod := by decide +kernel
set_option maxRecDepth 65536 in
theorem w_hears : about1.hears theMethod below0 = true := by decide +kernel
set_option maxRecDepth 65536 in
theorem w_ripe : about1.ripe theMethod args0 below0 = true := by decide +kernel
theorem w_running : about1.status = .running := rfl
set_option maxRecDepth 65536 in
theorem w_room : about1.hasRoom e0.platform room_1 = true :=
  launch0.hasRoom_least _ room_1 (by decide +kernel) (by decide +kernel) (by decide +kernel) (by decide +kernel) (by decide +kernel) (by decide +kernel)
theorem allAtoms_all (ts : List Jvm.Cond) (a : Array Jvm.Value) (st : Jvm.State) : (allAtoms ts).before a st = ts.all (fun c => c.before a st) := by
  induction ts with
  | nil => rfl
  | cons c t ih =>
    show (Jvm.Cond.and c (allAtoms t)).before a st = _
    rw [Jvm.Cond.before_and, ih, List.all_cons]
def words1 : List Jvm.Cond := Jvm.Cond.code x code maxLocals ret :: tables_1
/-- a 'code' word, met by the world's own term for the bytes: nothing is compared byte by byte -/
theorem code_word {y : MethodName} {bytes : ByteArray} {mx : Nat} {rt : Option FieldType} {a : Array Value} {s : State} {m : MethodId} {meth : Method} {c : Code} (h1 : s.methodNamed? y = some m) (h2 : s.vm.method? m = some meth) (h3 : meth.code = some c) (h4 : c.code = bytes)
    (h5 : (c.maxLocals == mx && c.exceptionTable.isEmpty && decide (c.maxStack ≤ mostOperands) && decide (meth.sig.returnType = rt) && !meth.locks && decide (parseMethodDescriptor y.desc = some meth.sig)) = true) : (Jvm.Cond.code y bytes mx rt).before a s = true := by
  simp only [Bool.and_eq_true, beq_iff_eq, Bool.not_eq_true', decide_eq_true_eq] at h5
  obtain ⟨⟨⟨⟨⟨g1, g2⟩, g3⟩, g4⟩, g5⟩, g6⟩ := h5
  simp [Cond.before, Cond.holds, Cond.value, h1, h2, h3, h4, g1, g2, g3, g4, g5, g6]
def isCode : Jvm.Cond → Bool
  | .code _ _ _ _ => true
  | _ => false
theorem all_split {L : List Jvm.Cond} {P : Jvm.Cond → Bool} (h1 : L.all (fun c => isCode c || P c) = true) (h2 : ∀ c ∈ L.filter isCode, P c = true) : L.all P = true := by
  refine List.all_eq_true.mpr fun c hc => ?_
  have h := List.all_eq_true.mp h1 c hc
  rcases Bool.eq_false_or_eq_true (isCode c) with hi | hi
  · exact h2 c (List.mem_filter.mpr ⟨hc, hi⟩)
  · simpa [hi] using h
set_option maxRecDepth 65536 in
theorem w_c0 : (Jvm.Cond.code x code maxLocals ret).before args0 about1 = true := code_word (m := ⟨1, 2⟩) (meth := k1m2) (c := k1c2) (by decide +kernel) rfl rfl rfl (by decide +kernel)
set_option maxRecDepth 65536 in
theorem w_c1 : (Jvm.Cond.code ({ cls := "com/example/troskel/troskel/service/RetransmissionTimer", name := "<init>", desc := "(J)V" } : Jvm.MethodName) prog_49_method_1_code (3 : Nat) (Option.none : Option Jvm.ClassFile.FieldType)).before args0 about1 = true := code_word (m := ⟨2, 0⟩) (meth := k2m0) (c := k2c0) (by decide +kernel) rfl rfl rfl (by decide +kernel)
set_option maxRecDepth 65536 in
theorem w_c2 : (Jvm.Cond.code ({ cls := "java/lang/Object", name := "<init>", desc := "()V" } : Jvm.MethodName) object_method_1_code (1 : Nat) (Option.none : Option Jvm.ClassFile.FieldType)).before args0 about1 = true := code_word (m := ⟨0, 0⟩) (meth := k0m0) (c := k0c0) (by decide +kernel) rfl rfl rfl (by decide +kernel)
set_option maxRecDepth 65536 in
theorem w_c3 : (Jvm.Cond.code ({ cls := "com/example/troskel/troskel/service/RetransmissionTimer", name := "dueNanos", desc := "()J" } : Jvm.MethodName) prog_49_method_2_code (1 : Nat) (Option.some Jvm.ClassFile.FieldType.long)).before args0 about1 = true := code_word (m := ⟨2, 1⟩) (meth := k2m1) (c := k2c1) (by decide +kernel) rfl rfl rfl (by decide +kernel)
set_option maxRecDepth 65536 in
theorem w_c4 : (Jvm.Cond.code ({ cls := "com/example/troskel/troskel/service/RetransmissionTimer", name := "retransmits", desc := "(J)Z" } : Jvm.MethodName) prog_49_method_4_code (3 : Nat) (Option.some Jvm.ClassFile.FieldType.boolean)).before args0 about1 = true := code_word (m := ⟨2, 3⟩) (meth := k2m3) (c := k2c3) (by decide +kernel) rfl rfl rfl (by decide +kernel)
set_option maxRecDepth 65536 in
theorem w_c5 : (Jvm.Cond.code ({ cls := "com/example/troskel/troskel/service/RetransmissionTimer", name := "timedOut", desc := "(J)Z" } : Jvm.MethodName) prog_49_method_3_code (3 : Nat) (Option.some Jvm.ClassFile.FieldType.boolean)).before args0 about1 = true := code_word (m := ⟨2, 2⟩) (meth := k2m2) (c := k2c2) (by decide +kernel) rfl rfl rfl (by decide +kernel)
set_option maxRecDepth 65536 in
theorem w_c6 : (Jvm.Cond.code ({ cls := "com/example/troskel/troskel/service/RetransmissionTimerDueNanosPinLaw", name := "expectedOffset", desc := "(JZ)J" } : Jvm.MethodName) method_2_code (5 : Nat) (Option.some Jvm.ClassFile.FieldType.long)).before args0 about1 = true := code_word (m := ⟨1, 1⟩) (meth := k1m1) (c := k1c1) (by decide +kernel) rfl rfl rfl (by decide +kernel)
set_option maxRecDepth 65536 in
theorem w_c7 : (Jvm.Cond.code ({ cls := "com/example/troskel/troskel/service/RetransmissionTimer", name := "provisional", desc := "()V" } : Jvm.MethodName) prog_49_method_5_code (1 : Nat) (Option.none : Option Jvm.ClassFile.FieldType)).before args0 about1 = true := code_word (m := ⟨2, 4⟩) (meth := k2m4) (c := k2c4) (by decide +kernel) rfl rfl rfl (by decide +kernel)
set_option maxRecDepth 65536 in
theorem w_c8 : (Jvm.Cond.code ({ cls := "java/lang/Math", name := "min", desc := "(JJ)J" } : Jvm.MethodName) jdk_29_method_70_code (4 : Nat) (Option.some Jvm.ClassFile.FieldType.long)).before args0 about1 = true := code_word (m := ⟨3, 1⟩) (meth := k3m1) (c := k3c1) (by decide +kernel) rfl rfl rfl (by decide +kernel)
def codes1 : List Jvm.Cond := [Jvm.Cond.code x code maxLocals ret, Jvm.Cond.code ({ cls := "com/example/troskel/troskel/service/RetransmissionTimer", name := "<init>", desc := "(J)V" } : Jvm.MethodName) prog_49_method_1_code (3 : Nat) (Option.none : Option Jvm.ClassFile.FieldType), Jvm.Cond.code ({ cls := "java/lang/Object", name := "<init>", desc := "()V" } : Jvm.MethodName) object_method_1_code (1 : Nat) (Option.none : Option Jvm.ClassFile.FieldType), Jvm.Cond.code ({ cls := "com/example/troskel/troskel/service/RetransmissionTimer", name := "dueNanos", desc := "()J" } : Jvm.MethodName) prog_49_method_2_code (1 : Nat) (Option.some Jvm.ClassFile.FieldType.long), Jvm.Cond.code ({ cls := "com/example/troskel/troskel/service/RetransmissionTimer", name := "retransmits", desc := "(J)Z" } : Jvm.MethodName) prog_49_method_4_code (3 : Nat) (Option.some Jvm.ClassFile.FieldType.boolean), Jvm.Cond.code ({ cls := "com/example/troskel/troskel/service/RetransmissionTimer", name := "timedOut", desc := "(J)Z" } : Jvm.MethodName) prog_49_method_3_code (3 : Nat) (Option.some Jvm.ClassFile.FieldType.boolean), Jvm.Cond.code ({ cls := "com/example/troskel/troskel/service/RetransmissionTimerDueNanosPinLaw", name := "expectedOffset", desc := "(JZ)J" } : Jvm.MethodName) method_2_code (5 : Nat) (Option.some Jvm.ClassFile.FieldType.long), Jvm.Cond.code ({ cls := "com/example/troskel/troskel/service/RetransmissionTimer", name := "provisional", desc := "()V" } : Jvm.MethodName) prog_49_method_5_code (1 : Nat) (Option.none : Option Jvm.ClassFile.FieldType), Jvm.Cond.code ({ cls := "java/lang/Math", name := "min", desc := "(JJ)J" } : Jvm.MethodName) jdk_29_method_70_code (4 : Nat) (Option.some Jvm.ClassFile.FieldType.long)]
set_option maxRecDepth 65536 in
theorem codes_eq : words1.filter isCode = codes1 := rfl
theorem w_codes : ∀ c ∈ words1.filter isCode, c.before args0 about1 = true := by
  rw [codes_eq]
  intro c hc
  simp only [codes1, List.mem_cons, List.not_mem_nil, or_false] at hc
  rcases hc with rfl | rfl | rfl | rfl | rfl | rfl | rfl | rfl | rfl
  · exact w_c0
  · exact w_c1
  · exact w_c2
  · exact w_c3
  · exact w_c4
  · exact w_c5
  · exact w_c6
  · exact w_c7
  · exact w_c8
set_option maxRecDepth 65536 in
theorem w_t1 : (words1.take 24).all (fun c => isCode c || c.before args0 about1) = true := by decide +kernel
set_option maxRecDepth 65536 in
theorem w_t2 : ((words1.drop 24).take 24).all (fun c => isCode c || c.before args0 about1) = true := by decide +kernel
set_option maxRecDepth 65536 in
theorem w_t3 : ((words1.drop 24).drop 24).all (fun c => isCode c || c.before args0 about1) = true := by decide +kernel
theorem w_tables : (allAtoms (Jvm.Cond.code x code maxLocals ret :: tables_1)).before args0 about1 = true := by
  rw [allAtoms_all]
  show words1.all (fun c => c.before args0 about1) = true
  refine all_split ?_ w_codes
  rw [← List.take_append_drop 24 words1, List.all_append, w_t1, ← List.take_append_drop 24 (words1.drop 24), List.all_append, w_t2, w_t3]
  rfl
set_option maxRecDepth 65536 in
theorem w_case : (Jvm.Cond.and given_1 narrow_1).before args0 about1 = true := by decide +kernel
theorem w_applies : (headSpec (Jvm.Cond.code x code maxLocals ret :: tables_1) room_1).applies x e0.platform about1 = true :=
  (Spec.applies_iff w_frames).mpr ⟨w_running, w_runnable, w_alone, w_named, w_hears, w_ripe, w_room, w_tables⟩
theorem atStart : AtStart classFile x code maxLocals ret World_1 tables_1 room_1 Calls_1 rest_1 Pre_1 launch0 p0 e0 about1 theMethod args0 below0 :=
  ⟨lists_1, trivial, launch0.admits_env _ _ _, launch0.least_env, fairChoices_fair.cas, fairChoices_fair.clock, w_frames, w_args, w_heap, w_applies, trivial, trivial, w_case⟩
end start1
theorem witness_1 : WitnessClaimed_1 := ⟨start1.p0, start1.e0, start1.about1, start1.theMethod, start1.args0, start1.below0, start1.atStart⟩
end Jvm.Pilot.@@N@@
