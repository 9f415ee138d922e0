import JvmDerived
import JvmDerived.Pilot.@@N@@Statement
import JvmDerived.Pilot.@@N@@Code
set_option linter.unusedVariables false
set_option linter.unusedSimpArgs false
namespace Jvm.Pilot.@@N@@
open Jvm Jvm.ClassFile Sem Op Lib Jvm.Free Jvm.Stand Jvm.LawKit Jvm.RoadKit Bundle Jvm.Pilot.@@N@@.Jvm.D
def own_Go (tb : Tables) (e : Env) (below : List Frame) (P : State → Outcome → Prop) (A : State) : Prop := ∃ s₂ o, Steps tb e below A s₂ ∧ P s₂ o
theorem own_in {tb : Tables} {e : Env} {below : List Frame} {P : State → Outcome → Prop} {A : State} (h : own_Go tb e below P A) : ∃ s₂ o, Steps tb e below A s₂ ∧ P s₂ o := h
theorem own_st {tb : Tables} {e : Env} {below : List Frame} {P : State → Outcome → Prop} {A B : State} (h : ∀ t, Steps tb e below B t → Steps tb e below A t) (k : own_Go tb e below P B) : own_Go tb e below P A := by
  obtain ⟨s₂, o, h1, h2⟩ := k
  exact ⟨s₂, o, h _ h1, h2⟩
theorem own_tr {tb : Tables} {e : Env} {below : List Frame} {P : State → Outcome → Prop} {A B : State} (h : Steps tb e below A B) (k : own_Go tb e below P B) : own_Go tb e below P A := by
  obtain ⟨s₂, o, h1, h2⟩ := k
  exact ⟨s₂, o, h.trans h1, h2⟩
theorem own_out {tb : Tables} {e : Env} {below : List Frame} {P : State → Outcome → Prop} {A B : State} {o : Outcome} (h : Steps tb e below A B) (k : P B o) : own_Go tb e below P A := ⟨B, o, h, k⟩
theorem own_join {ι : Type} {tb : Tables} {e : Env} {below : List Frame} {P : State → Outcome → Prop} {A : State} (B : ι → State) (K : ι → Prop) (hJ : ∀ b, K b → own_Go tb e below P (B b)) (h : (∀ b, K b → own_Go tb e below P (B b)) → own_Go tb e below P A) : own_Go tb e below P A := h hJ
section Own
variable {p : Program} {l : Launch} {e : Env} {R : Room} {s : State} {m : MethodId} {args : Array Value} {below : List Frame} {meth : Method} {c : Code} {T : State} {locs : List Loc} {cells slots : Nat}
theorem own_retI (X : Stand p l e R s m args below meth c T locs cells slots) (hx : p.tables.exec = Jvm.exec) {pc : Nat} {Ls : Array Slot} {z : Int32} {rest : List Value} (hret : meth.sig.returnType = some .int) (hd : decode c.code pc = .ok (.ireturn, 1)) {fs : List Frame}
    (hl : ∀ (f : JFrame) (acts : List Action), f.method = m → f.locked = none → f.entered = [] → (doReturn e (T.setTop f) acts (some (.int z))).1 = T.setFrames fs) : Steps p.tables e below (T.setTop (mkF m pc Ls (.int z :: rest))) (T.setFrames fs) := by
  have hm' : T.vm.method? m = some meth := X.method'
  have hn : narrow .int (.int z) = .int z := rfl
  show Steps p.tables e below (T.setTop { method := m, pc := pc, locals := Ls, stack := _ :: rest, locked := none }) _
  jvm_step X.here [X.here.top, hx, hd, hm', hret, hn]
  first | (intro acts; rw [hl _ acts rfl rfl rfl]) | rw [hl _ _ rfl rfl rfl]
  exact Steps.refl _
end Own
theorem d1_0 : decode prog_49_method_1_code 0 = .ok (.aload_n 0, 1) := by decide +kernel
theorem d1_1 : decode prog_49_method_1_code 1 = .ok (.invokespecial 3, 3) := by decide +kernel
theorem d1_4 : decode prog_49_method_1_code 4 = .ok (.aload_n 0, 1) := by decide +kernel
theorem d1_5 : decode prog_49_method_1_code 5 = .ok (.ldc2_w 9, 3) := by decide +kernel
theorem d1_8 : decode prog_49_method_1_code 8 = .ok (.putfield 11, 3) := by decide +kernel
theorem d1_11 : decode prog_49_method_1_code 11 = .ok (.aload_n 0, 1) := by decide +kernel
theorem d1_12 : decode prog_49_method_1_code 12 = .ok (.lload_n 1, 1) := by decide +kernel
theorem d1_13 : decode prog_49_method_1_code 13 = .ok (.ldc2_w 15, 3) := by decide +kernel
theorem d1_16 : decode prog_49_method_1_code 16 = .ok (.ladd, 1) := by decide +kernel
theorem d1_17 : decode prog_49_method_1_code 17 = .ok (.putfield 17, 3) := by decide +kernel
theorem d1_20 : decode prog_49_method_1_code 20 = .ok (.aload_n 0, 1) := by decide +kernel
theorem d1_21 : decode prog_49_method_1_code 21 = .ok (.lload_n 1, 1) := by decide +kernel
theorem d1_22 : decode prog_49_method_1_code 22 = .ok (.ldc2_w 9, 3) := by decide +kernel
theorem d1_25 : decode prog_49_method_1_code 25 = .ok (.ladd, 1) := by decide +kernel
theorem d1_26 : decode prog_49_method_1_code 26 = .ok (.putfield 20, 3) := by decide +kernel
theorem d1_29 : decode prog_49_method_1_code 29 = .ok (.return_, 1) := by decide +kernel
theorem own_pd0 : parseMethodDescriptor "(J)V" = some ⟨[.long], none⟩ := by decide +kernel
theorem own_pn0 : plainName "com/example/troskel/troskel/service/RetransmissionTimer" = true := by first | (simp [plainName, overriddenIn]; done) | decide +kernel
def Q1 (Z : State) (ob : Addr) (u1 : Int64) (o_interval : Value) (o_timeoutAt : Value) (o_next : Value) (h0 : Heap) (n0 : Nat) (v : Option Value) (h : Heap) (L : List Loc) : Prop := v = none ∧ Fr n0 L ∧ Keep h0 h [ob] ∧ Exa Z h ob "com/example/troskel/troskel/service/RetransmissionTimer" ∧ Fld Z h ob "com/example/troskel/troskel/service/RetransmissionTimer" "interval" "J" (.long (500000000 : Int64)) ∧ Fld Z h ob "com/example/troskel/troskel/service/RetransmissionTimer" "timeoutAt" "J" (.long (u1 + (32000000000 : Int64))) ∧ Fld Z h ob "com/example/troskel/troskel/service/RetransmissionTimer" "next" "J" (.long (u1 + (500000000 : Int64)))
theorem ef_1 (m : MethodId) (x0 : Addr) (x1 : Int64) : entryFrame m #[(.ref x0), (.long x1)] 3 = mkF m 0 #[.val (.ref x0), .val (.long x1), .second] [] := by first | (simp [entryFrame, mkF, argsToLocals, Value.category]; done) | rfl
set_option maxRecDepth 65536 in
set_option maxHeartbeats 40000000 in
theorem rm1 (l : Launch) (Z : State) (a0 : Array Value) (hw : ∀ d ∈ tables_1, d.before a0 Z = true) (ws : List Jvm.Cond) (ob : Addr) (u1 : Int64) (o_interval : Value) (o_timeoutAt : Value) (o_next : Value) (h0 : Heap) (n0 : Nat) (Z0 : n0 ≤ h0.size) (E_ob : Exa Z h0 ob "com/example/troskel/troskel/service/RetransmissionTimer") (gnob : n0 ≤ ob) (F_interval : Fld Z h0 ob "com/example/troskel/troskel/service/RetransmissionTimer" "interval" "J" o_interval) (F_timeoutAt : Fld Z h0 ob "com/example/troskel/troskel/service/RetransmissionTimer" "timeoutAt" "J" o_timeoutAt) (F_next : Fld Z h0 ob "com/example/troskel/troskel/service/RetransmissionTimer" "next" "J" o_next)  :
    MetFree l (⟨"com/example/troskel/troskel/service/RetransmissionTimer", "<init>", "(J)V"⟩ : MethodName) (head1 (Jvm.Cond.code (⟨"com/example/troskel/troskel/service/RetransmissionTimer", "<init>", "(J)V"⟩ : MethodName) prog_49_method_1_code 3 none :: ws) ({ frames := 1, cells := 0, slots := 0, locals := 12 } : Room)) (fun a U => a = #[(.ref ob), (.long u1)] ∧ Z.Warmed39 U.vm ∧ U.heap = h0) (fun _ _ _ _ _ => True) (fun _ U o U' => ∃ v L, o = .returned v ∧ Q1 Z ob u1 o_interval o_timeoutAt o_next h0 n0 v U'.heap L ∧ FrameEnd U o U' L ({ frames := 1, cells := 0, slots := 0, locals := 12 } : Room).cells ({ frames := 1, cells := 0, slots := 0, locals := 12 } : Room).slots) := by
  refine MetFree.of_bodySF (plainFor_of_name own_pn0) hisR ?_
  intro p e s m args below meth c s₁ Bd hml0 hP hK
  obtain ⟨rfl, hZ, hh⟩ := hP
  have hx := Bd.exec
  have hby := Bd.bytes
  have hml : c.maxLocals = 3 := hml0
  have hown : s.vm.findClass "com/example/troskel/troskel/service/RetransmissionTimer" = some m.cls := findClass_of_methodNamed Bd.named
  have hnm := (name_of_methodNamed Bd.named Bd.method).1
  have X0 : Stand p l e ({ frames := 1, cells := 0, slots := 0, locals := 12 } : Room) s m #[(.ref ob), (.long u1)] below meth c s₁ [] 0 0 := Stand.of_body Bd
  have e0 : s₁.heap = h0 := by rw [← hh, Bd.state]; rfl
  have N0 := Fr.nil n0
  refine own_in ?_
  refine own_st (fun _ k => castTop (ef_1 m ob u1) k) ?_
  have K0 : Keep h0 h0 [ob] := Keep.refl h0 [ob]
  show own_Go _ _ _ _ (s₁.setTop (mkF m 0 #[.val (.ref ob), .val (.long u1), .second] []))
  refine own_st (fun _ k => XS.aloadN X0.here hx rfl (hb hby d1_0) rfl rfl k) ?_
  show own_Go _ _ _ _ (s₁.setTop (mkF m 1 #[.val (.ref ob), .val (.long u1), .second] [(.ref ob)]))
  obtain ⟨T1, X1, e1, st1⟩ := initO X0 hx hZ hown (hw _ (List.mem_of_getElem? (i := 6) rfl)) (hw _ (List.mem_of_getElem? (i := 7) rfl)) (hw _ (List.mem_of_getElem? (i := 8) rfl)) e0 (g := (mkF m 1 #[.val (.ref ob), .val (.long u1), .second] [(.ref ob)])) rfl (by rw [hml]; rfl) rfl (hb hby d1_1) (by decide) (W := 0) (by show 2 * 0 + _ ≤ _; exact Nat.le_of_eq rfl) (by decide)
  refine own_st st1 ?_
  show own_Go _ _ _ _ (T1.setTop (mkF m 4 #[.val (.ref ob), .val (.long u1), .second] []))
  refine own_st (fun _ k => XS.aloadN X1.here hx rfl (hb hby d1_4) rfl rfl k) ?_
  show own_Go _ _ _ _ (T1.setTop (mkF m 5 #[.val (.ref ob), .val (.long u1), .second] [(.ref ob)]))
  refine own_st (fun _ k => X1.ldc2Long hx hown (mvT hZ (hw _ (List.mem_of_getElem? (i := 9) rfl))) (g := (mkF m 5 #[.val (.ref ob), .val (.long u1), .second] [(.ref ob)])) rfl (hb hby d1_5) _ k) ?_
  show own_Go _ _ _ _ (T1.setTop (mkF m 8 #[.val (.ref ob), .val (.long u1), .second] [(.long (500000000 : Int64)), (.ref ob)]))
  obtain ⟨T2, h2, X2, e2, W2, st2⟩ := putF X1 hx hZ hown (host := "") (Or.inl (hw _ (List.mem_of_getElem? (i := 10) rfl))) Via.refl e1 F_interval E_ob (Or.inl (hw _ (List.mem_of_getElem? (i := 11) rfl))) (hw _ (List.mem_of_getElem? (i := 1) rfl)) (ty := .long) (by decide) rfl rfl (g := (mkF m 8 #[.val (.ref ob), .val (.long u1), .second] [(.long (500000000 : Int64)), (.ref ob)])) rfl rfl (hb hby d1_8)
  refine own_st st2 ?_
  have Fw2 : Fld Z h2 ob "com/example/troskel/troskel/service/RetransmissionTimer" "interval" "J" (.long (500000000 : Int64)) := F_interval.same W2
  have y2_E_ob := E_ob.wr W2
  have y2_F_ob_timeoutAt := F_timeoutAt.other W2 (Or.inr (slot_ne (Or.inr (hw _ (List.mem_of_getElem? (i := 14) rfl))) (Or.inl (hw _ (List.mem_of_getElem? (i := 11) rfl))) (by decide) (t := .long) (t' := .long) (by decide) (by decide)))
  have y2_F_ob_next := F_next.other W2 (Or.inr (slot_ne (Or.inl (hw _ (List.mem_of_getElem? (i := 16) rfl))) (Or.inl (hw _ (List.mem_of_getElem? (i := 11) rfl))) (by decide) (t := .long) (t' := .long) (by decide) (by decide)))
  have Z2 : n0 ≤ h2.size := Nat.le_trans Z0 (Nat.le_of_eq W2.size.symm)
  have N2 := Fr.snoc X2 N0 gnob
  have K2 : Keep h0 h2 [ob] := K0.wr W2 (Or.inl (by simp))
  show own_Go _ _ _ _ (T2.setTop (mkF m 11 #[.val (.ref ob), .val (.long u1), .second] []))
  refine own_st (fun _ k => XS.aloadN X2.here hx rfl (hb hby d1_11) rfl rfl k) ?_
  show own_Go _ _ _ _ (T2.setTop (mkF m 12 #[.val (.ref ob), .val (.long u1), .second] [(.ref ob)]))
  refine own_st (fun _ k => XS.lloadN X2.here hx rfl (hb hby d1_12) rfl k) ?_
  show own_Go _ _ _ _ (T2.setTop (mkF m 13 #[.val (.ref ob), .val (.long u1), .second] [(.long u1), (.ref ob)]))
  refine own_st (fun _ k => X2.ldc2Long hx hown (mvT hZ (hw _ (List.mem_of_getElem? (i := 12) rfl))) (g := (mkF m 13 #[.val (.ref ob), .val (.long u1), .second] [(.long u1), (.ref ob)])) rfl (hb hby d1_13) _ k) ?_
  show own_Go _ _ _ _ (T2.setTop (mkF m 16 #[.val (.ref ob), .val (.long u1), .second] [(.long (32000000000 : Int64)), (.long u1), (.ref ob)]))
  refine own_st (fun _ k => XS.ladd X2.here hx rfl (hb hby d1_16) rfl k) ?_
  show own_Go _ _ _ _ (T2.setTop (mkF m 17 #[.val (.ref ob), .val (.long u1), .second] [(.long (u1 + (32000000000 : Int64))), (.ref ob)]))
  obtain ⟨T3, h3, X3, e3, W3, st3⟩ := putF X2 hx hZ hown (host := "") (Or.inl (hw _ (List.mem_of_getElem? (i := 13) rfl))) Via.refl e2 y2_F_ob_timeoutAt y2_E_ob (Or.inr ⟨(hw _ (List.mem_of_getElem? (i := 14) rfl)), rfl, hnm⟩) (hw _ (List.mem_of_getElem? (i := 1) rfl)) (ty := .long) (by decide) rfl rfl (g := (mkF m 17 #[.val (.ref ob), .val (.long u1), .second] [(.long (u1 + (32000000000 : Int64))), (.ref ob)])) rfl rfl (hb hby d1_17)
  refine own_st st3 ?_
  have Fw3 : Fld Z h3 ob "com/example/troskel/troskel/service/RetransmissionTimer" "timeoutAt" "J" (.long (u1 + (32000000000 : Int64))) := y2_F_ob_timeoutAt.same W3
  have y3_E_ob := y2_E_ob.wr W3
  have y3_F_ob_interval := Fw2.other W3 (Or.inr (slot_ne (Or.inl (hw _ (List.mem_of_getElem? (i := 11) rfl))) (Or.inr (hw _ (List.mem_of_getElem? (i := 14) rfl))) (by decide) (t := .long) (t' := .long) (by decide) (by decide)))
  have y3_F_ob_next := y2_F_ob_next.other W3 (Or.inr (slot_ne (Or.inl (hw _ (List.mem_of_getElem? (i := 16) rfl))) (Or.inr (hw _ (List.mem_of_getElem? (i := 14) rfl))) (by decide) (t := .long) (t' := .long) (by decide) (by decide)))
  have Z3 : n0 ≤ h3.size := Nat.le_trans Z2 (Nat.le_of_eq W3.size.symm)
  have N3 := Fr.snoc X3 N2 gnob
  have K3 : Keep h0 h3 [ob] := K2.wr W3 (Or.inl (by simp))
  show own_Go _ _ _ _ (T3.setTop (mkF m 20 #[.val (.ref ob), .val (.long u1), .second] []))
  refine own_st (fun _ k => XS.aloadN X3.here hx rfl (hb hby d1_20) rfl rfl k) ?_
  show own_Go _ _ _ _ (T3.setTop (mkF m 21 #[.val (.ref ob), .val (.long u1), .second] [(.ref ob)]))
  refine own_st (fun _ k => XS.lloadN X3.here hx rfl (hb hby d1_21) rfl k) ?_
  show own_Go _ _ _ _ (T3.setTop (mkF m 22 #[.val (.ref ob), .val (.long u1), .second] [(.long u1), (.ref ob)]))
  refine own_st (fun _ k => X3.ldc2Long hx hown (mvT hZ (hw _ (List.mem_of_getElem? (i := 9) rfl))) (g := (mkF m 22 #[.val (.ref ob), .val (.long u1), .second] [(.long u1), (.ref ob)])) rfl (hb hby d1_22) _ k) ?_
  show own_Go _ _ _ _ (T3.setTop (mkF m 25 #[.val (.ref ob), .val (.long u1), .second] [(.long (500000000 : Int64)), (.long u1), (.ref ob)]))
  refine own_st (fun _ k => XS.ladd X3.here hx rfl (hb hby d1_25) rfl k) ?_
  show own_Go _ _ _ _ (T3.setTop (mkF m 26 #[.val (.ref ob), .val (.long u1), .second] [(.long (u1 + (500000000 : Int64))), (.ref ob)]))
  obtain ⟨T4, h4, X4, e4, W4, st4⟩ := putF X3 hx hZ hown (host := "") (Or.inl (hw _ (List.mem_of_getElem? (i := 15) rfl))) Via.refl e3 y3_F_ob_next y3_E_ob (Or.inl (hw _ (List.mem_of_getElem? (i := 16) rfl))) (hw _ (List.mem_of_getElem? (i := 1) rfl)) (ty := .long) (by decide) rfl rfl (g := (mkF m 26 #[.val (.ref ob), .val (.long u1), .second] [(.long (u1 + (500000000 : Int64))), (.ref ob)])) rfl rfl (hb hby d1_26)
  refine own_st st4 ?_
  have Fw4 : Fld Z h4 ob "com/example/troskel/troskel/service/RetransmissionTimer" "next" "J" (.long (u1 + (500000000 : Int64))) := y3_F_ob_next.same W4
  have y4_E_ob := y3_E_ob.wr W4
  have y4_F_ob_interval := y3_F_ob_interval.other W4 (Or.inr (slot_ne (Or.inl (hw _ (List.mem_of_getElem? (i := 11) rfl))) (Or.inl (hw _ (List.mem_of_getElem? (i := 16) rfl))) (by decide) (t := .long) (t' := .long) (by decide) (by decide)))
  have y4_F_ob_timeoutAt := Fw3.other W4 (Or.inr (slot_ne (Or.inr (hw _ (List.mem_of_getElem? (i := 14) rfl))) (Or.inl (hw _ (List.mem_of_getElem? (i := 16) rfl))) (by decide) (t := .long) (t' := .long) (by decide) (by decide)))
  have Z4 : n0 ≤ h4.size := Nat.le_trans Z3 (Nat.le_of_eq W4.size.symm)
  have N4 := Fr.snoc X4 N3 gnob
  have K4 : Keep h0 h4 [ob] := K3.wr W4 (Or.inl (by simp))
  show own_Go _ _ _ _ (T4.setTop (mkF m 29 #[.val (.ref ob), .val (.long u1), .second] []))
  obtain ⟨fs, hr, hrun, hended, hW, hsame⟩ := X4.leave (v := none) (fun _ => rfl)
  refine own_out (X4.returnOut hx Bd.returns (hb hby d1_29) hr) ⟨hrun, hended, _, _, rfl, ?_, ⟨_, rfl⟩, hW, hsame.mono (by decide) (by decide)⟩
  show Q1 Z ob u1 o_interval o_timeoutAt o_next h0 n0 _ T4.heap _
  rw [e4]
  exact ⟨rfl, N4, K4, y4_E_ob, y4_F_ob_interval, y4_F_ob_timeoutAt, Fw4⟩
def own_to (u1 : Int64) (f1 : Int64) : Int32 := (if (lcmpW (u1 - f1) (0 : Int64)) < (0 : Int32) then (0 : Int32) else (1 : Int32))
theorem d3_0 : decode prog_49_method_3_code 0 = .ok (.lload_n 1, 1) := by decide +kernel
theorem d3_1 : decode prog_49_method_3_code 1 = .ok (.aload_n 0, 1) := by decide +kernel
theorem d3_2 : decode prog_49_method_3_code 2 = .ok (.getfield 17, 3) := by decide +kernel
theorem d3_5 : decode prog_49_method_3_code 5 = .ok (.lsub, 1) := by decide +kernel
theorem d3_6 : decode prog_49_method_3_code 6 = .ok (.lconst 0, 1) := by decide +kernel
theorem d3_7 : decode prog_49_method_3_code 7 = .ok (.lcmp, 1) := by decide +kernel
theorem d3_8 : decode prog_49_method_3_code 8 = .ok (.ifCond .lt 7, 3) := by decide +kernel
theorem d3_11 : decode prog_49_method_3_code 11 = .ok (.iconst 1, 1) := by decide +kernel
theorem d3_12 : decode prog_49_method_3_code 12 = .ok (.goto 4, 3) := by decide +kernel
theorem d3_15 : decode prog_49_method_3_code 15 = .ok (.iconst 0, 1) := by decide +kernel
theorem d3_16 : decode prog_49_method_3_code 16 = .ok (.ireturn, 1) := by decide +kernel
theorem own_pd1 : parseMethodDescriptor "(J)Z" = some ⟨[.long], some .boolean⟩ := by decide +kernel
def Q3 (Z : State) (ob : Addr) (u1 : Int64) (f1 : Int64) (h0 : Heap) (n0 : Nat) (v : Option Value) (h : Heap) (L : List Loc) : Prop := v = some (.int (own_to u1 f1)) ∧ Fr n0 L ∧ h = h0
theorem ef_3 (m : MethodId) (x0 : Addr) (x1 : Int64) : entryFrame m #[(.ref x0), (.long x1)] 3 = mkF m 0 #[.val (.ref x0), .val (.long x1), .second] [] := by first | (simp [entryFrame, mkF, argsToLocals, Value.category]; done) | rfl
set_option maxRecDepth 65536 in
set_option maxHeartbeats 40000000 in
theorem rm3 (l : Launch) (Z : State) (a0 : Array Value) (hw : ∀ d ∈ tables_1, d.before a0 Z = true) (ws : List Jvm.Cond) (ob : Addr) (u1 : Int64) (f1 : Int64) (h0 : Heap) (n0 : Nat) (Z0 : n0 ≤ h0.size) (F_timeoutAt : Fld Z h0 ob "com/example/troskel/troskel/service/RetransmissionTimer" "timeoutAt" "J" (.long f1))  :
    MetFree l (⟨"com/example/troskel/troskel/service/RetransmissionTimer", "timedOut", "(J)Z"⟩ : MethodName) (head1 (Jvm.Cond.code (⟨"com/example/troskel/troskel/service/RetransmissionTimer", "timedOut", "(J)Z"⟩ : MethodName) prog_49_method_3_code 3 (some .boolean) :: ws) ({ frames := 0, cells := 0, slots := 0, locals := 0 } : Room)) (fun a U => a = #[(.ref ob), (.long u1)] ∧ Z.Warmed39 U.vm ∧ U.heap = h0) (fun _ _ _ _ _ => True) (fun _ U o U' => ∃ v L, o = .returned v ∧ Q3 Z ob u1 f1 h0 n0 v U'.heap L ∧ FrameEnd U o U' L ({ frames := 0, cells := 0, slots := 0, locals := 0 } : Room).cells ({ frames := 0, cells := 0, slots := 0, locals := 0 } : Room).slots) := by
  refine MetFree.of_bodySF (plainFor_of_name own_pn0) hisR ?_
  intro p e s m args below meth c s₁ Bd hml0 hP hK
  obtain ⟨rfl, hZ, hh⟩ := hP
  have hx := Bd.exec
  have hby := Bd.bytes
  have hml : c.maxLocals = 3 := hml0
  have hown : s.vm.findClass "com/example/troskel/troskel/service/RetransmissionTimer" = some m.cls := findClass_of_methodNamed Bd.named
  have hnm := (name_of_methodNamed Bd.named Bd.method).1
  have X0 : Stand p l e ({ frames := 0, cells := 0, slots := 0, locals := 0 } : Room) s m #[(.ref ob), (.long u1)] below meth c s₁ [] 0 0 := Stand.of_body Bd
  have e0 : s₁.heap = h0 := by rw [← hh, Bd.state]; rfl
  have N0 := Fr.nil n0
  refine own_in ?_
  refine own_st (fun _ k => castTop (ef_3 m ob u1) k) ?_
  have K0 : Keep h0 h0 [] := Keep.refl h0 []
  show own_Go _ _ _ _ (s₁.setTop (mkF m 0 #[.val (.ref ob), .val (.long u1), .second] []))
  refine own_st (fun _ k => XS.lloadN X0.here hx rfl (hb hby d3_0) rfl k) ?_
  show own_Go _ _ _ _ (s₁.setTop (mkF m 1 #[.val (.ref ob), .val (.long u1), .second] [(.long u1)]))
  refine own_st (fun _ k => XS.aloadN X0.here hx rfl (hb hby d3_1) rfl rfl k) ?_
  show own_Go _ _ _ _ (s₁.setTop (mkF m 2 #[.val (.ref ob), .val (.long u1), .second] [(.ref ob), (.long u1)]))
  obtain ⟨T5, X5, e5, st5⟩ := getF X0 hx hZ hown (host := "") (Or.inl (hw _ (List.mem_of_getElem? (i := 13) rfl))) Via.refl e0 F_timeoutAt (g := (mkF m 2 #[.val (.ref ob), .val (.long u1), .second] [(.ref ob), (.long u1)])) rfl rfl (hb hby d3_2)
  refine own_st st5 ?_
  show own_Go _ _ _ _ (T5.setTop (mkF m 5 #[.val (.ref ob), .val (.long u1), .second] [(.long f1), (.long u1)]))
  refine own_st (fun _ k => XS.lsub X5.here hx rfl (hb hby d3_5) rfl k) ?_
  show own_Go _ _ _ _ (T5.setTop (mkF m 6 #[.val (.ref ob), .val (.long u1), .second] [(.long (u1 - f1))]))
  refine own_st (fun _ k => XS.lconst X5.here hx rfl (hb hby d3_6) k) ?_
  show own_Go _ _ _ _ (T5.setTop (mkF m 7 #[.val (.ref ob), .val (.long u1), .second] [(.long (0 : Int64)), (.long (u1 - f1))]))
  refine own_st (fun _ k => XS.lcmp X5.here hx rfl (hb hby d3_7) rfl k) ?_
  show own_Go _ _ _ _ (T5.setTop (mkF m 8 #[.val (.ref ob), .val (.long u1), .second] [(.int (lcmpW (u1 - f1) (0 : Int64)))]))
  by_cases hc6 : (lcmpW (u1 - f1) (0 : Int64)) < (0 : Int32)
  · skip
    refine own_st (fun _ k => XS.ifYes X5.here hx rfl (pc0 := 8) (pc' := 15) rfl (hb hby d3_8) rfl ((if0 _ _).trans (tlt hc6).1) (by decide) (by decide) k) ?_
    show own_Go _ _ _ _ (T5.setTop (mkF m 15 #[.val (.ref ob), .val (.long u1), .second] []))
    refine own_st (fun _ k => XS.iconst X5.here hx rfl (hb hby d3_15) k) ?_
    show own_Go _ _ _ _ (T5.setTop (mkF m 16 #[.val (.ref ob), .val (.long u1), .second] [(.int (0 : Int32))]))
    obtain ⟨fs, hr, hrun, hended, hW, hsame⟩ := X5.leave (v := some (.int (0 : Int32))) (fun h => by rw [Bd.returns] at h; cases h)
    refine own_out (retN X5 hx (t := .boolean) Bd.returns (by simp) (hb hby d3_16) hr) ⟨hrun, hended, _, _, rfl, ?_, ⟨_, rfl⟩, hW, hsame.mono (by decide) (by decide)⟩
    show Q3 Z ob u1 f1 h0 n0 _ T5.heap _
    have hv : own_to u1 f1 = (0 : Int32) := by
      unfold own_to
      rw [if_pos hc6]
    exact ⟨by rw [hv], N0, e5⟩
  · skip
    refine own_st (fun _ k => XS.ifNo X5.here hx rfl (hb hby d3_8) rfl ((if0 _ _).trans (flt hc6).1) k) ?_
    show own_Go _ _ _ _ (T5.setTop (mkF m 11 #[.val (.ref ob), .val (.long u1), .second] []))
    refine own_st (fun _ k => XS.iconst X5.here hx rfl (hb hby d3_11) k) ?_
    show own_Go _ _ _ _ (T5.setTop (mkF m 12 #[.val (.ref ob), .val (.long u1), .second] [(.int (1 : Int32))]))
    refine own_st (fun _ k => XS.goto X5.here hx rfl (pc0 := 12) (pc' := 16) rfl (hb hby d3_12) (by decide) (by decide) k) ?_
    show own_Go _ _ _ _ (T5.setTop (mkF m 16 #[.val (.ref ob), .val (.long u1), .second] [(.int (1 : Int32))]))
    obtain ⟨fs, hr, hrun, hended, hW, hsame⟩ := X5.leave (v := some (.int (1 : Int32))) (fun h => by rw [Bd.returns] at h; cases h)
    refine own_out (retN X5 hx (t := .boolean) Bd.returns (by simp) (hb hby d3_16) hr) ⟨hrun, hended, _, _, rfl, ?_, ⟨_, rfl⟩, hW, hsame.mono (by decide) (by decide)⟩
    show Q3 Z ob u1 f1 h0 n0 _ T5.heap _
    have hv : own_to u1 f1 = (1 : Int32) := by
      unfold own_to
      rw [if_neg hc6]
    exact ⟨by rw [hv], N0, e5⟩
theorem own_d (x : Int64) : -4611686018427387904 ≤ (x >>> ((1 : Int32) &&& 0x3f).toInt64).toInt ∧ (x >>> ((1 : Int32) &&& 0x3f).toInt64).toInt < 4611686018427387904 := by
  have h := c_lshr x 1 1 (by decide)
  have r := rng64 x
  rw [h]
  constructor <;> omega
theorem own_sd (s d k : Int64) (h : -4611686018427387904 ≤ d.toInt ∧ d.toInt < 4611686018427387904) (hk : 0 ≤ k.toInt ∧ k.toInt < 1099511627776) : ((s + d) - (s + k)).toInt = d.toInt - k.toInt := by
  have h1 := c_ladd s d
  have h2 := c_ladd s k
  have h3 := c_lsub (s + d) (s + k)
  have r3 := rng64 ((s + d) - (s + k))
  omega
theorem own_s0 (s k : Int64) (hk : 0 ≤ k.toInt ∧ k.toInt < 1099511627776) : (s - (s + k)).toInt = - k.toInt := by
  have h2 := c_ladd s k
  have h3 := c_lsub s (s + k)
  have r3 := rng64 (s - (s + k))
  omega
theorem own_y (s x : Int64) (h : (lcmpW (x >>> ((1 : Int32) &&& 0x3f).toInt64) (32000000000 : Int64)) < (0 : Int32)) : own_to (s + (x >>> ((1 : Int32) &&& 0x3f).toInt64)) (s + (32000000000 : Int64)) = (0 : Int32) := by
  unfold own_to
  rw [if_pos]
  rw [lw_lt, Int64.lt_iff_toInt_lt] at h ⊢
  rw [own_sd _ _ _ (own_d x) (by decide)]
  simp only [Int64.reduceToInt] at *
  omega
theorem own_n (s x : Int64) (h : ¬ (lcmpW (x >>> ((1 : Int32) &&& 0x3f).toInt64) (32000000000 : Int64)) < (0 : Int32)) : own_to (s + (x >>> ((1 : Int32) &&& 0x3f).toInt64)) (s + (32000000000 : Int64)) = (1 : Int32) := by
  unfold own_to
  rw [if_neg]
  rw [lw_lt, Int64.lt_iff_toInt_lt] at h ⊢
  rw [own_sd _ _ _ (own_d x) (by decide)]
  simp only [Int64.reduceToInt] at *
  omega
theorem own_dl (s : Int64) : ¬ own_to (s + (32000000000 : Int64)) (s + (32000000000 : Int64)) = (0 : Int32) := by
  unfold own_to
  rw [if_neg]
  · decide
  rw [lw_lt, Int64.lt_iff_toInt_lt, own_sd _ _ _ (by decide) (by decide)]
  decide
theorem own_jb (s : Int64) : own_to (s + (31999999999 : Int64)) (s + (32000000000 : Int64)) = (0 : Int32) := by
  unfold own_to
  rw [if_pos]
  rw [lw_lt, Int64.lt_iff_toInt_lt, own_sd _ _ _ (by decide) (by decide)]
  decide
theorem own_as (s : Int64) : own_to s (s + (32000000000 : Int64)) = (0 : Int32) := by
  unfold own_to
  rw [if_pos]
  rw [lw_lt, Int64.lt_iff_toInt_lt, own_s0 _ _ (by decide)]
  decide
theorem own_pd2 : parseMethodDescriptor "(JJ)Z" = some ⟨[.long, .long], some .boolean⟩ := by decide +kernel
theorem own_pn1 : plainName "com/example/troskel/troskel/service/RetransmissionTimerTimedOutPinLaw" = true := by first | (simp [plainName, overriddenIn]; done) | decide +kernel
def Q0 (Z : State) (u0 : Int64) (u1 : Int64) (h0 : Heap) (n0 : Nat) (v : Option Value) (h : Heap) (L : List Loc) : Prop := v = some (.int 1) ∧ Fr n0 L
theorem ef_0 (m : MethodId) (x0 : Int64) (x1 : Int64) : entryFrame m #[(.long x0), (.long x1)] maxLocals = mkF m 0 #[.val (.long x0), .second, .val (.long x1), .second, .unset, .unset, .unset, .unset, .unset, .unset, .unset, .unset] [] := by first | (simp [entryFrame, mkF, argsToLocals, Value.category, maxLocals]; done) | rfl
set_option maxRecDepth 65536 in
set_option maxHeartbeats 40000000 in
theorem rm0 (l : Launch) (Z : State) (a0 : Array Value) (hw : ∀ d ∈ tables_1, d.before a0 Z = true) (ws : List Jvm.Cond) (u0 : Int64) (u1 : Int64) (h0 : Heap) (n0 : Nat) (Z0 : n0 ≤ h0.size)  :
    MetFree l x (head1 (Jvm.Cond.code x code maxLocals ret :: ws) room_1) (fun a U => a = #[(.long u0), (.long u1)] ∧ Z.Warmed39 U.vm ∧ U.heap = h0) (fun _ _ _ _ _ => True) (fun _ U o U' => ∃ v L, o = .returned v ∧ Q0 Z u0 u1 h0 n0 v U'.heap L ∧ FrameEnd U o U' L 16 128) := by
  refine MetFree.of_bodySF (plainFor_of_name own_pn1) hisR ?_
  intro p e s m args below meth c s₁ Bd hml0 hP hK
  obtain ⟨rfl, hZ, hh⟩ := hP
  have hx := Bd.exec
  have hby := Bd.bytes
  have hml : c.maxLocals = 12 := hml0
  have hown : s.vm.findClass "com/example/troskel/troskel/service/RetransmissionTimerTimedOutPinLaw" = some m.cls := findClass_of_methodNamed Bd.named
  have hnm := (name_of_methodNamed Bd.named Bd.method).1
  have X0 : Stand p l e room_1 s m #[(.long u0), (.long u1)] below meth c s₁ [] 0 0 := Stand.of_body Bd
  have e0 : s₁.heap = h0 := by rw [← hh, Bd.state]; rfl
  have N0 := Fr.nil n0
  refine own_in ?_
  refine own_st (fun _ k => castTop (ef_0 m u0 u1) k) ?_
  have K0 : Keep h0 h0 [] := Keep.refl h0 []
  show own_Go _ _ _ _ (s₁.setTop (mkF m 0 #[.val (.long u0), .second, .val (.long u1), .second, .unset, .unset, .unset, .unset, .unset, .unset, .unset, .unset] []))
  obtain ⟨T7, h7, X7, e7, E7, A7, D7, -, st7⟩ := newO X0 hx hZ hown (hw _ (List.mem_of_getElem? (i := 0) rfl)) (hw _ (List.mem_of_getElem? (i := 1) rfl)) (hw _ (List.mem_of_getElem? (i := 2) rfl)) e0 (g := (mkF m 0 #[.val (.long u0), .second, .val (.long u1), .second, .unset, .unset, .unset, .unset, .unset, .unset, .unset, .unset] [])) rfl (hb hby at_0) (by decide) (by decide)
  obtain ⟨b7, g7⟩ : ∃ z, z = h0.size := ⟨_, rfl⟩
  rw [← g7] at A7 D7 st7
  refine own_st st7 ?_
  have Z7 : n0 ≤ h7.size := Nat.le_trans Z0 E7.1
  have gnb7 : n0 ≤ b7 := Nat.le_trans Z0 (Nat.le_of_eq g7.symm)
  have gkb7 : h0.size ≤ b7 := Nat.le_trans K0.1 (Nat.le_of_eq g7.symm)
  have K7 : Keep h0 h7 [] := K0.ext E7
  have F7_interval : Fld Z h7 b7 "com/example/troskel/troskel/service/RetransmissionTimer" "interval" "J" (.long (0 : Int64)) := D7 (Or.inl (hw _ (List.mem_of_getElem? (i := 11) rfl))) (ty := .long) (by decide)
  have F7_timeoutAt : Fld Z h7 b7 "com/example/troskel/troskel/service/RetransmissionTimer" "timeoutAt" "J" (.long (0 : Int64)) := D7 (Or.inr (hw _ (List.mem_of_getElem? (i := 14) rfl))) (ty := .long) (by decide)
  have F7_next : Fld Z h7 b7 "com/example/troskel/troskel/service/RetransmissionTimer" "next" "J" (.long (0 : Int64)) := D7 (Or.inl (hw _ (List.mem_of_getElem? (i := 16) rfl))) (ty := .long) (by decide)
  show own_Go _ _ _ _ (T7.setTop (mkF m 3 #[.val (.long u0), .second, .val (.long u1), .second, .unset, .unset, .unset, .unset, .unset, .unset, .unset, .unset] [(.ref b7)]))
  refine own_st (fun _ k => XS.dup X7.here hx rfl (hb hby at_3) rfl rfl k) ?_
  show own_Go _ _ _ _ (T7.setTop (mkF m 4 #[.val (.long u0), .second, .val (.long u1), .second, .unset, .unset, .unset, .unset, .unset, .unset, .unset, .unset] [(.ref b7), (.ref b7)]))
  refine own_st (fun _ k => XS.lloadN X7.here hx rfl (hb hby at_4) rfl k) ?_
  show own_Go _ _ _ _ (T7.setTop (mkF m 5 #[.val (.long u0), .second, .val (.long u1), .second, .unset, .unset, .unset, .unset, .unset, .unset, .unset, .unset] [(.long u0), (.ref b7), (.ref b7)]))
  obtain ⟨_, _, ⟨T8, L8, k8, n8⟩, -, X8, ⟨Lc8, hQ8, l8, y8, z8⟩, st8⟩ := X7.specialBack hx (y := (⟨"com/example/troskel/troskel/service/RetransmissionTimer", "<init>", "(J)V"⟩ : MethodName)) rfl hown (mvT hZ (hw _ (List.mem_of_getElem? (i := 3) rfl))) (mvT hZ (hw _ (List.mem_of_getElem? (i := 4) rfl))) (mvT hZ (hw _ (List.mem_of_getElem? (i := 5) rfl))) (by decide) (backOf (W := 1) (rm1 l Z a0 hw [] b7 u0 (.long (0 : Int64)) (.long (0 : Int64)) (.long (0 : Int64)) h7 n0 Z7 A7 gnb7 F7_interval F7_timeoutAt F7_next ) hZ (hw _ (List.mem_of_getElem? (i := 5) rfl)) (hw _ (List.mem_of_getElem? (i := 2) rfl)) (by decide) (by decide)) (g := (mkF m 5 #[.val (.long u0), .second, .val (.long u1), .second, .unset, .unset, .unset, .unset, .unset, .unset, .unset, .unset] [(.long u0), (.ref b7), (.ref b7)])) rfl (by rw [hml]; rfl) (Steps.refl _) (a := b7) (argsL := [(.long u0)]) (rest := [(.ref b7)]) (lenOf own_pd0 rfl) rfl (by show 2 * 0 + _ ≤ _; exact Nat.le_of_eq rfl) (hb hby at_5) (fun _ _ => ⟨rfl, e7, (by decide : 1 + 0 ≤ _), (by decide : 4 + 0 ≤ _)⟩)
  dsimp only [Pt.U, Pt.locs, Pt.cells, Pt.slots] at X8 l8 y8 z8 st8 hQ8
  subst l8 y8 z8
  obtain ⟨rfl, Nq8, Kq8, Eq8, Fq8_interval, Fq8_timeoutAt, Fq8_next⟩ := hQ8
  have N8 := Fr.app N0 Nq8
  refine own_tr st8 ?_
  have z8_E_b7 := A7.keep Kq8
  have Z8 : n0 ≤ T8.heap.size := Nat.le_trans Z7 Kq8.1
  have Kk8 : Keep h0 T8.heap [] := K7.trans Kq8 (allS (Or.inr gkb7) all0)
  show own_Go _ _ _ _ (T8.setTop (mkF m 8 #[.val (.long u0), .second, .val (.long u1), .second, .unset, .unset, .unset, .unset, .unset, .unset, .unset, .unset] [(.ref b7)]))
  refine own_st (fun _ k => XS.astore X8.here hx rfl (hb hby at_8) rfl rfl (l' := #[.val (.long u0), .second, .val (.long u1), .second, .val (.ref b7), .unset, .unset, .unset, .unset, .unset, .unset, .unset]) rfl k) ?_
  show own_Go _ _ _ _ (T8.setTop (mkF m 10 #[.val (.long u0), .second, .val (.long u1), .second, .val (.ref b7), .unset, .unset, .unset, .unset, .unset, .unset, .unset] []))
  refine own_st (fun _ k => XS.lloadN X8.here hx rfl (hb hby at_10) rfl k) ?_
  show own_Go _ _ _ _ (T8.setTop (mkF m 11 #[.val (.long u0), .second, .val (.long u1), .second, .val (.ref b7), .unset, .unset, .unset, .unset, .unset, .unset, .unset] [(.long u1)]))
  refine own_st (fun _ k => XS.iconst X8.here hx rfl (hb hby at_11) k) ?_
  show own_Go _ _ _ _ (T8.setTop (mkF m 12 #[.val (.long u0), .second, .val (.long u1), .second, .val (.ref b7), .unset, .unset, .unset, .unset, .unset, .unset, .unset] [(.int (1 : Int32)), (.long u1)]))
  refine own_st (fun _ k => XS.lshr X8.here hx rfl (hb hby at_12) rfl k) ?_
  show own_Go _ _ _ _ (T8.setTop (mkF m 13 #[.val (.long u0), .second, .val (.long u1), .second, .val (.ref b7), .unset, .unset, .unset, .unset, .unset, .unset, .unset] [(.long (u1 >>> ((1 : Int32) &&& 0x3f).toInt64))]))
  refine own_st (fun _ k => XS.lstore X8.here hx rfl (hb hby at_13) rfl (l' := #[.val (.long u0), .second, .val (.long u1), .second, .val (.ref b7), .val (.long (u1 >>> ((1 : Int32) &&& 0x3f).toInt64)), .second, .unset, .unset, .unset, .unset, .unset]) rfl k) ?_
  show own_Go _ _ _ _ (T8.setTop (mkF m 15 #[.val (.long u0), .second, .val (.long u1), .second, .val (.ref b7), .val (.long (u1 >>> ((1 : Int32) &&& 0x3f).toInt64)), .second, .unset, .unset, .unset, .unset, .unset] []))
  refine own_st (fun _ k => XS.lload X8.here hx rfl (hb hby at_15) rfl k) ?_
  show own_Go _ _ _ _ (T8.setTop (mkF m 17 #[.val (.long u0), .second, .val (.long u1), .second, .val (.ref b7), .val (.long (u1 >>> ((1 : Int32) &&& 0x3f).toInt64)), .second, .unset, .unset, .unset, .unset, .unset] [(.long (u1 >>> ((1 : Int32) &&& 0x3f).toInt64))]))
  refine own_st (fun _ k => X8.ldc2Long hx hown (mvT hZ (hw _ (List.mem_of_getElem? (i := 17) rfl))) (g := (mkF m 17 #[.val (.long u0), .second, .val (.long u1), .second, .val (.ref b7), .val (.long (u1 >>> ((1 : Int32) &&& 0x3f).toInt64)), .second, .unset, .unset, .unset, .unset, .unset] [(.long (u1 >>> ((1 : Int32) &&& 0x3f).toInt64))])) rfl (hb hby at_17) _ k) ?_
  show own_Go _ _ _ _ (T8.setTop (mkF m 20 #[.val (.long u0), .second, .val (.long u1), .second, .val (.ref b7), .val (.long (u1 >>> ((1 : Int32) &&& 0x3f).toInt64)), .second, .unset, .unset, .unset, .unset, .unset] [(.long (32000000000 : Int64)), (.long (u1 >>> ((1 : Int32) &&& 0x3f).toInt64))]))
  refine own_st (fun _ k => XS.lcmp X8.here hx rfl (hb hby at_20) rfl k) ?_
  show own_Go _ _ _ _ (T8.setTop (mkF m 21 #[.val (.long u0), .second, .val (.long u1), .second, .val (.ref b7), .val (.long (u1 >>> ((1 : Int32) &&& 0x3f).toInt64)), .second, .unset, .unset, .unset, .unset, .unset] [(.int (lcmpW (u1 >>> ((1 : Int32) &&& 0x3f).toInt64) (32000000000 : Int64)))]))
  by_cases hc9 : (lcmpW (u1 >>> ((1 : Int32) &&& 0x3f).toInt64) (32000000000 : Int64)) < (0 : Int32)
  · skip
    refine own_st (fun _ k => XS.ifYes X8.here hx rfl (pc0 := 21) (pc' := 28) rfl (hb hby at_21) rfl ((if0 _ _).trans (tlt hc9).1) (by decide) (by decide) k) ?_
    show own_Go _ _ _ _ (T8.setTop (mkF m 28 #[.val (.long u0), .second, .val (.long u1), .second, .val (.ref b7), .val (.long (u1 >>> ((1 : Int32) &&& 0x3f).toInt64)), .second, .unset, .unset, .unset, .unset, .unset] []))
    refine own_st (fun _ k => XS.iconst X8.here hx rfl (hb hby at_28) k) ?_
    show own_Go _ _ _ _ (T8.setTop (mkF m 29 #[.val (.long u0), .second, .val (.long u1), .second, .val (.ref b7), .val (.long (u1 >>> ((1 : Int32) &&& 0x3f).toInt64)), .second, .unset, .unset, .unset, .unset, .unset] [(.int (0 : Int32))]))
    refine own_st (fun _ k => XS.istore X8.here hx rfl (hb hby at_29) rfl (l' := #[.val (.long u0), .second, .val (.long u1), .second, .val (.ref b7), .val (.long (u1 >>> ((1 : Int32) &&& 0x3f).toInt64)), .second, .val (.int (0 : Int32)), .unset, .unset, .unset, .unset]) rfl k) ?_
    show own_Go _ _ _ _ (T8.setTop (mkF m 31 #[.val (.long u0), .second, .val (.long u1), .second, .val (.ref b7), .val (.long (u1 >>> ((1 : Int32) &&& 0x3f).toInt64)), .second, .val (.int (0 : Int32)), .unset, .unset, .unset, .unset] []))
    refine own_st (fun _ k => XS.aload X8.here hx rfl (hb hby at_31) rfl rfl k) ?_
    show own_Go _ _ _ _ (T8.setTop (mkF m 33 #[.val (.long u0), .second, .val (.long u1), .second, .val (.ref b7), .val (.long (u1 >>> ((1 : Int32) &&& 0x3f).toInt64)), .second, .val (.int (0 : Int32)), .unset, .unset, .unset, .unset] [(.ref b7)]))
    refine own_st (fun _ k => XS.lloadN X8.here hx rfl (hb hby at_33) rfl k) ?_
    show own_Go _ _ _ _ (T8.setTop (mkF m 34 #[.val (.long u0), .second, .val (.long u1), .second, .val (.ref b7), .val (.long (u1 >>> ((1 : Int32) &&& 0x3f).toInt64)), .second, .val (.int (0 : Int32)), .unset, .unset, .unset, .unset] [(.long u0), (.ref b7)]))
    refine own_st (fun _ k => XS.lload X8.here hx rfl (hb hby at_34) rfl k) ?_
    show own_Go _ _ _ _ (T8.setTop (mkF m 36 #[.val (.long u0), .second, .val (.long u1), .second, .val (.ref b7), .val (.long (u1 >>> ((1 : Int32) &&& 0x3f).toInt64)), .second, .val (.int (0 : Int32)), .unset, .unset, .unset, .unset] [(.long (u1 >>> ((1 : Int32) &&& 0x3f).toInt64)), (.long u0), (.ref b7)]))
    refine own_st (fun _ k => XS.ladd X8.here hx rfl (hb hby at_36) rfl k) ?_
    show own_Go _ _ _ _ (T8.setTop (mkF m 37 #[.val (.long u0), .second, .val (.long u1), .second, .val (.ref b7), .val (.long (u1 >>> ((1 : Int32) &&& 0x3f).toInt64)), .second, .val (.int (0 : Int32)), .unset, .unset, .unset, .unset] [(.long (u0 + (u1 >>> ((1 : Int32) &&& 0x3f).toInt64))), (.ref b7)]))
    obtain ⟨cq10, kq10, q10a, q10b, q10c⟩ := isOf hZ rfl z8_E_b7
    obtain ⟨_, _, ⟨T10, L10, k10, n10⟩, -, X10, ⟨Lc10, hQ10, l10, y10, z10⟩, st10⟩ := X8.virtualBack hx (y := (⟨"com/example/troskel/troskel/service/RetransmissionTimer", "timedOut", "(J)Z"⟩ : MethodName)) (z := (⟨"com/example/troskel/troskel/service/RetransmissionTimer", "timedOut", "(J)Z"⟩ : MethodName)) hown (mvT hZ (hw _ (List.mem_of_getElem? (i := 18) rfl))) (mvT hZ (hw _ (List.mem_of_getElem? (i := 19) rfl))) (notFace_of_selects (args := #[]) (mvT hZ (hw _ (List.mem_of_getElem? (i := 21) rfl)))) (mvT hZ (hw _ (List.mem_of_getElem? (i := 21) rfl))) (mvT hZ (hw _ (List.mem_of_getElem? (i := 20) rfl))) (by decide) (backOf (W := 0) (rm3 l Z a0 hw [] b7 (u0 + (u1 >>> ((1 : Int32) &&& 0x3f).toInt64)) (u0 + (32000000000 : Int64)) T8.heap n0 Z8 Fq8_timeoutAt ) hZ (hw _ (List.mem_of_getElem? (i := 22) rfl)) (hw _ (List.mem_of_getElem? (i := 2) rfl)) (by decide) (by decide)) q10a q10c (g := (mkF m 37 #[.val (.long u0), .second, .val (.long u1), .second, .val (.ref b7), .val (.long (u1 >>> ((1 : Int32) &&& 0x3f).toInt64)), .second, .val (.int (0 : Int32)), .unset, .unset, .unset, .unset] [(.long (u0 + (u1 >>> ((1 : Int32) &&& 0x3f).toInt64))), (.ref b7)])) rfl (by rw [hml]; rfl) (Steps.refl _) (argsL := [(.long (u0 + (u1 >>> ((1 : Int32) &&& 0x3f).toInt64)))]) (rest := []) (lenOf own_pd1 rfl) rfl (by show 2 * 0 + _ ≤ _; exact Nat.le_of_eq rfl) (hb hby at_37) (fun _ _ => ⟨rfl, rfl, (by decide : 1 + 0 ≤ _), (by decide : 4 + 0 ≤ _)⟩)
    dsimp only [Pt.U, Pt.locs, Pt.cells, Pt.slots] at X10 l10 y10 z10 st10 hQ10
    subst l10 y10 z10
    obtain ⟨rfl, Nq10, eq10⟩ := hQ10
    have N10 := Fr.app N8 Nq10
    refine own_tr st10 ?_
    show own_Go _ _ _ _ (T10.setTop (mkF m 40 #[.val (.long u0), .second, .val (.long u1), .second, .val (.ref b7), .val (.long (u1 >>> ((1 : Int32) &&& 0x3f).toInt64)), .second, .val (.int (0 : Int32)), .unset, .unset, .unset, .unset] [(.int (own_to (u0 + (u1 >>> ((1 : Int32) &&& 0x3f).toInt64)) (u0 + (32000000000 : Int64))))]))
    refine own_st (fun _ k => XS.istore X10.here hx rfl (hb hby at_40) rfl (l' := #[.val (.long u0), .second, .val (.long u1), .second, .val (.ref b7), .val (.long (u1 >>> ((1 : Int32) &&& 0x3f).toInt64)), .second, .val (.int (0 : Int32)), .val (.int (own_to (u0 + (u1 >>> ((1 : Int32) &&& 0x3f).toInt64)) (u0 + (32000000000 : Int64)))), .unset, .unset, .unset]) rfl k) ?_
    show own_Go _ _ _ _ (T10.setTop (mkF m 42 #[.val (.long u0), .second, .val (.long u1), .second, .val (.ref b7), .val (.long (u1 >>> ((1 : Int32) &&& 0x3f).toInt64)), .second, .val (.int (0 : Int32)), .val (.int (own_to (u0 + (u1 >>> ((1 : Int32) &&& 0x3f).toInt64)) (u0 + (32000000000 : Int64)))), .unset, .unset, .unset] []))
    refine own_st (fun _ k => XS.aload X10.here hx rfl (hb hby at_42) rfl rfl k) ?_
    show own_Go _ _ _ _ (T10.setTop (mkF m 44 #[.val (.long u0), .second, .val (.long u1), .second, .val (.ref b7), .val (.long (u1 >>> ((1 : Int32) &&& 0x3f).toInt64)), .second, .val (.int (0 : Int32)), .val (.int (own_to (u0 + (u1 >>> ((1 : Int32) &&& 0x3f).toInt64)) (u0 + (32000000000 : Int64)))), .unset, .unset, .unset] [(.ref b7)]))
    refine own_st (fun _ k => XS.lloadN X10.here hx rfl (hb hby at_44) rfl k) ?_
    show own_Go _ _ _ _ (T10.setTop (mkF m 45 #[.val (.long u0), .second, .val (.long u1), .second, .val (.ref b7), .val (.long (u1 >>> ((1 : Int32) &&& 0x3f).toInt64)), .second, .val (.int (0 : Int32)), .val (.int (own_to (u0 + (u1 >>> ((1 : Int32) &&& 0x3f).toInt64)) (u0 + (32000000000 : Int64)))), .unset, .unset, .unset] [(.long u0), (.ref b7)]))
    refine own_st (fun _ k => X10.ldc2Long hx hown (mvT hZ (hw _ (List.mem_of_getElem? (i := 17) rfl))) (g := (mkF m 45 #[.val (.long u0), .second, .val (.long u1), .second, .val (.ref b7), .val (.long (u1 >>> ((1 : Int32) &&& 0x3f).toInt64)), .second, .val (.int (0 : Int32)), .val (.int (own_to (u0 + (u1 >>> ((1 : Int32) &&& 0x3f).toInt64)) (u0 + (32000000000 : Int64)))), .unset, .unset, .unset] [(.long u0), (.ref b7)])) rfl (hb hby at_45) _ k) ?_
    show own_Go _ _ _ _ (T10.setTop (mkF m 48 #[.val (.long u0), .second, .val (.long u1), .second, .val (.ref b7), .val (.long (u1 >>> ((1 : Int32) &&& 0x3f).toInt64)), .second, .val (.int (0 : Int32)), .val (.int (own_to (u0 + (u1 >>> ((1 : Int32) &&& 0x3f).toInt64)) (u0 + (32000000000 : Int64)))), .unset, .unset, .unset] [(.long (32000000000 : Int64)), (.long u0), (.ref b7)]))
    refine own_st (fun _ k => XS.ladd X10.here hx rfl (hb hby at_48) rfl k) ?_
    show own_Go _ _ _ _ (T10.setTop (mkF m 49 #[.val (.long u0), .second, .val (.long u1), .second, .val (.ref b7), .val (.long (u1 >>> ((1 : Int32) &&& 0x3f).toInt64)), .second, .val (.int (0 : Int32)), .val (.int (own_to (u0 + (u1 >>> ((1 : Int32) &&& 0x3f).toInt64)) (u0 + (32000000000 : Int64)))), .unset, .unset, .unset] [(.long (u0 + (32000000000 : Int64))), (.ref b7)]))
    obtain ⟨cq11, kq11, q11a, q11b, q11c⟩ := isOf hZ eq10 z8_E_b7
    obtain ⟨_, _, ⟨T11, L11, k11, n11⟩, -, X11, ⟨Lc11, hQ11, l11, y11, z11⟩, st11⟩ := X10.virtualBack hx (y := (⟨"com/example/troskel/troskel/service/RetransmissionTimer", "timedOut", "(J)Z"⟩ : MethodName)) (z := (⟨"com/example/troskel/troskel/service/RetransmissionTimer", "timedOut", "(J)Z"⟩ : MethodName)) hown (mvT hZ (hw _ (List.mem_of_getElem? (i := 18) rfl))) (mvT hZ (hw _ (List.mem_of_getElem? (i := 19) rfl))) (notFace_of_selects (args := #[]) (mvT hZ (hw _ (List.mem_of_getElem? (i := 21) rfl)))) (mvT hZ (hw _ (List.mem_of_getElem? (i := 21) rfl))) (mvT hZ (hw _ (List.mem_of_getElem? (i := 20) rfl))) (by decide) (backOf (W := 0) (rm3 l Z a0 hw [] b7 (u0 + (32000000000 : Int64)) (u0 + (32000000000 : Int64)) T8.heap n0 Z8 Fq8_timeoutAt ) hZ (hw _ (List.mem_of_getElem? (i := 22) rfl)) (hw _ (List.mem_of_getElem? (i := 2) rfl)) (by decide) (by decide)) q11a q11c (g := (mkF m 49 #[.val (.long u0), .second, .val (.long u1), .second, .val (.ref b7), .val (.long (u1 >>> ((1 : Int32) &&& 0x3f).toInt64)), .second, .val (.int (0 : Int32)), .val (.int (own_to (u0 + (u1 >>> ((1 : Int32) &&& 0x3f).toInt64)) (u0 + (32000000000 : Int64)))), .unset, .unset, .unset] [(.long (u0 + (32000000000 : Int64))), (.ref b7)])) rfl (by rw [hml]; rfl) (Steps.refl _) (argsL := [(.long (u0 + (32000000000 : Int64)))]) (rest := []) (lenOf own_pd1 rfl) rfl (by show 2 * 0 + _ ≤ _; exact Nat.le_of_eq rfl) (hb hby at_49) (fun _ _ => ⟨rfl, eq10, (by decide : 1 + 0 ≤ _), (by decide : 4 + 0 ≤ _)⟩)
    dsimp only [Pt.U, Pt.locs, Pt.cells, Pt.slots] at X11 l11 y11 z11 st11 hQ11
    subst l11 y11 z11
    obtain ⟨rfl, Nq11, eq11⟩ := hQ11
    have N11 := Fr.app N10 Nq11
    refine own_tr st11 ?_
    show own_Go _ _ _ _ (T11.setTop (mkF m 52 #[.val (.long u0), .second, .val (.long u1), .second, .val (.ref b7), .val (.long (u1 >>> ((1 : Int32) &&& 0x3f).toInt64)), .second, .val (.int (0 : Int32)), .val (.int (own_to (u0 + (u1 >>> ((1 : Int32) &&& 0x3f).toInt64)) (u0 + (32000000000 : Int64)))), .unset, .unset, .unset] [(.int (own_to (u0 + (32000000000 : Int64)) (u0 + (32000000000 : Int64))))]))
    refine own_st (fun _ k => XS.istore X11.here hx rfl (hb hby at_52) rfl (l' := #[.val (.long u0), .second, .val (.long u1), .second, .val (.ref b7), .val (.long (u1 >>> ((1 : Int32) &&& 0x3f).toInt64)), .second, .val (.int (0 : Int32)), .val (.int (own_to (u0 + (u1 >>> ((1 : Int32) &&& 0x3f).toInt64)) (u0 + (32000000000 : Int64)))), .val (.int (own_to (u0 + (32000000000 : Int64)) (u0 + (32000000000 : Int64)))), .unset, .unset]) rfl k) ?_
    show own_Go _ _ _ _ (T11.setTop (mkF m 54 #[.val (.long u0), .second, .val (.long u1), .second, .val (.ref b7), .val (.long (u1 >>> ((1 : Int32) &&& 0x3f).toInt64)), .second, .val (.int (0 : Int32)), .val (.int (own_to (u0 + (u1 >>> ((1 : Int32) &&& 0x3f).toInt64)) (u0 + (32000000000 : Int64)))), .val (.int (own_to (u0 + (32000000000 : Int64)) (u0 + (32000000000 : Int64)))), .unset, .unset] []))
    refine own_st (fun _ k => XS.aload X11.here hx rfl (hb hby at_54) rfl rfl k) ?_
    show own_Go _ _ _ _ (T11.setTop (mkF m 56 #[.val (.long u0), .second, .val (.long u1), .second, .val (.ref b7), .val (.long (u1 >>> ((1 : Int32) &&& 0x3f).toInt64)), .second, .val (.int (0 : Int32)), .val (.int (own_to (u0 + (u1 >>> ((1 : Int32) &&& 0x3f).toInt64)) (u0 + (32000000000 : Int64)))), .val (.int (own_to (u0 + (32000000000 : Int64)) (u0 + (32000000000 : Int64)))), .unset, .unset] [(.ref b7)]))
    refine own_st (fun _ k => XS.lloadN X11.here hx rfl (hb hby at_56) rfl k) ?_
    show own_Go _ _ _ _ (T11.setTop (mkF m 57 #[.val (.long u0), .second, .val (.long u1), .second, .val (.ref b7), .val (.long (u1 >>> ((1 : Int32) &&& 0x3f).toInt64)), .second, .val (.int (0 : Int32)), .val (.int (own_to (u0 + (u1 >>> ((1 : Int32) &&& 0x3f).toInt64)) (u0 + (32000000000 : Int64)))), .val (.int (own_to (u0 + (32000000000 : Int64)) (u0 + (32000000000 : Int64)))), .unset, .unset] [(.long u0), (.ref b7)]))
    refine own_st (fun _ k => X11.ldc2Long hx hown (mvT hZ (hw _ (List.mem_of_getElem? (i := 23) rfl))) (g := (mkF m 57 #[.val (.long u0), .second, .val (.long u1), .second, .val (.ref b7), .val (.long (u1 >>> ((1 : Int32) &&& 0x3f).toInt64)), .second, .val (.int (0 : Int32)), .val (.int (own_to (u0 + (u1 >>> ((1 : Int32) &&& 0x3f).toInt64)) (u0 + (32000000000 : Int64)))), .val (.int (own_to (u0 + (32000000000 : Int64)) (u0 + (32000000000 : Int64)))), .unset, .unset] [(.long u0), (.ref b7)])) rfl (hb hby at_57) _ k) ?_
    show own_Go _ _ _ _ (T11.setTop (mkF m 60 #[.val (.long u0), .second, .val (.long u1), .second, .val (.ref b7), .val (.long (u1 >>> ((1 : Int32) &&& 0x3f).toInt64)), .second, .val (.int (0 : Int32)), .val (.int (own_to (u0 + (u1 >>> ((1 : Int32) &&& 0x3f).toInt64)) (u0 + (32000000000 : Int64)))), .val (.int (own_to (u0 + (32000000000 : Int64)) (u0 + (32000000000 : Int64)))), .unset, .unset] [(.long (31999999999 : Int64)), (.long u0), (.ref b7)]))
    refine own_st (fun _ k => XS.ladd X11.here hx rfl (hb hby at_60) rfl k) ?_
    show own_Go _ _ _ _ (T11.setTop (mkF m 61 #[.val (.long u0), .second, .val (.long u1), .second, .val (.ref b7), .val (.long (u1 >>> ((1 : Int32) &&& 0x3f).toInt64)), .second, .val (.int (0 : Int32)), .val (.int (own_to (u0 + (u1 >>> ((1 : Int32) &&& 0x3f).toInt64)) (u0 + (32000000000 : Int64)))), .val (.int (own_to (u0 + (32000000000 : Int64)) (u0 + (32000000000 : Int64)))), .unset, .unset] [(.long (u0 + (31999999999 : Int64))), (.ref b7)]))
    obtain ⟨cq12, kq12, q12a, q12b, q12c⟩ := isOf hZ eq11 z8_E_b7
    obtain ⟨_, _, ⟨T12, L12, k12, n12⟩, -, X12, ⟨Lc12, hQ12, l12, y12, z12⟩, st12⟩ := X11.virtualBack hx (y := (⟨"com/example/troskel/troskel/service/RetransmissionTimer", "timedOut", "(J)Z"⟩ : MethodName)) (z := (⟨"com/example/troskel/troskel/service/RetransmissionTimer", "timedOut", "(J)Z"⟩ : MethodName)) hown (mvT hZ (hw _ (List.mem_of_getElem? (i := 18) rfl))) (mvT hZ (hw _ (List.mem_of_getElem? (i := 19) rfl))) (notFace_of_selects (args := #[]) (mvT hZ (hw _ (List.mem_of_getElem? (i := 21) rfl)))) (mvT hZ (hw _ (List.mem_of_getElem? (i := 21) rfl))) (mvT hZ (hw _ (List.mem_of_getElem? (i := 20) rfl))) (by decide) (backOf (W := 0) (rm3 l Z a0 hw [] b7 (u0 + (31999999999 : Int64)) (u0 + (32000000000 : Int64)) T8.heap n0 Z8 Fq8_timeoutAt ) hZ (hw _ (List.mem_of_getElem? (i := 22) rfl)) (hw _ (List.mem_of_getElem? (i := 2) rfl)) (by decide) (by decide)) q12a q12c (g := (mkF m 61 #[.val (.long u0), .second, .val (.long u1), .second, .val (.ref b7), .val (.long (u1 >>> ((1 : Int32) &&& 0x3f).toInt64)), .second, .val (.int (0 : Int32)), .val (.int (own_to (u0 + (u1 >>> ((1 : Int32) &&& 0x3f).toInt64)) (u0 + (32000000000 : Int64)))), .val (.int (own_to (u0 + (32000000000 : Int64)) (u0 + (32000000000 : Int64)))), .unset, .unset] [(.long (u0 + (31999999999 : Int64))), (.ref b7)])) rfl (by rw [hml]; rfl) (Steps.refl _) (argsL := [(.long (u0 + (31999999999 : Int64)))]) (rest := []) (lenOf own_pd1 rfl) rfl (by show 2 * 0 + _ ≤ _; exact Nat.le_of_eq rfl) (hb hby at_61) (fun _ _ => ⟨rfl, eq11, (by decide : 1 + 0 ≤ _), (by decide : 4 + 0 ≤ _)⟩)
    dsimp only [Pt.U, Pt.locs, Pt.cells, Pt.slots] at X12 l12 y12 z12 st12 hQ12
    subst l12 y12 z12
    obtain ⟨rfl, Nq12, eq12⟩ := hQ12
    have N12 := Fr.app N11 Nq12
    refine own_tr st12 ?_
    show own_Go _ _ _ _ (T12.setTop (mkF m 64 #[.val (.long u0), .second, .val (.long u1), .second, .val (.ref b7), .val (.long (u1 >>> ((1 : Int32) &&& 0x3f).toInt64)), .second, .val (.int (0 : Int32)), .val (.int (own_to (u0 + (u1 >>> ((1 : Int32) &&& 0x3f).toInt64)) (u0 + (32000000000 : Int64)))), .val (.int (own_to (u0 + (32000000000 : Int64)) (u0 + (32000000000 : Int64)))), .unset, .unset] [(.int (own_to (u0 + (31999999999 : Int64)) (u0 + (32000000000 : Int64))))]))
    refine own_st (fun _ k => XS.istore X12.here hx rfl (hb hby at_64) rfl (l' := #[.val (.long u0), .second, .val (.long u1), .second, .val (.ref b7), .val (.long (u1 >>> ((1 : Int32) &&& 0x3f).toInt64)), .second, .val (.int (0 : Int32)), .val (.int (own_to (u0 + (u1 >>> ((1 : Int32) &&& 0x3f).toInt64)) (u0 + (32000000000 : Int64)))), .val (.int (own_to (u0 + (32000000000 : Int64)) (u0 + (32000000000 : Int64)))), .val (.int (own_to (u0 + (31999999999 : Int64)) (u0 + (32000000000 : Int64)))), .unset]) rfl k) ?_
    show own_Go _ _ _ _ (T12.setTop (mkF m 66 #[.val (.long u0), .second, .val (.long u1), .second, .val (.ref b7), .val (.long (u1 >>> ((1 : Int32) &&& 0x3f).toInt64)), .second, .val (.int (0 : Int32)), .val (.int (own_to (u0 + (u1 >>> ((1 : Int32) &&& 0x3f).toInt64)) (u0 + (32000000000 : Int64)))), .val (.int (own_to (u0 + (32000000000 : Int64)) (u0 + (32000000000 : Int64)))), .val (.int (own_to (u0 + (31999999999 : Int64)) (u0 + (32000000000 : Int64)))), .unset] []))
    refine own_st (fun _ k => XS.aload X12.here hx rfl (hb hby at_66) rfl rfl k) ?_
    show own_Go _ _ _ _ (T12.setTop (mkF m 68 #[.val (.long u0), .second, .val (.long u1), .second, .val (.ref b7), .val (.long (u1 >>> ((1 : Int32) &&& 0x3f).toInt64)), .second, .val (.int (0 : Int32)), .val (.int (own_to (u0 + (u1 >>> ((1 : Int32) &&& 0x3f).toInt64)) (u0 + (32000000000 : Int64)))), .val (.int (own_to (u0 + (32000000000 : Int64)) (u0 + (32000000000 : Int64)))), .val (.int (own_to (u0 + (31999999999 : Int64)) (u0 + (32000000000 : Int64)))), .unset] [(.ref b7)]))
    refine own_st (fun _ k => XS.lloadN X12.here hx rfl (hb hby at_68) rfl k) ?_
    show own_Go _ _ _ _ (T12.setTop (mkF m 69 #[.val (.long u0), .second, .val (.long u1), .second, .val (.ref b7), .val (.long (u1 >>> ((1 : Int32) &&& 0x3f).toInt64)), .second, .val (.int (0 : Int32)), .val (.int (own_to (u0 + (u1 >>> ((1 : Int32) &&& 0x3f).toInt64)) (u0 + (32000000000 : Int64)))), .val (.int (own_to (u0 + (32000000000 : Int64)) (u0 + (32000000000 : Int64)))), .val (.int (own_to (u0 + (31999999999 : Int64)) (u0 + (32000000000 : Int64)))), .unset] [(.long u0), (.ref b7)]))
    obtain ⟨cq13, kq13, q13a, q13b, q13c⟩ := isOf hZ eq12 z8_E_b7
    obtain ⟨_, _, ⟨T13, L13, k13, n13⟩, -, X13, ⟨Lc13, hQ13, l13, y13, z13⟩, st13⟩ := X12.virtualBack hx (y := (⟨"com/example/troskel/troskel/service/RetransmissionTimer", "timedOut", "(J)Z"⟩ : MethodName)) (z := (⟨"com/example/troskel/troskel/service/RetransmissionTimer", "timedOut", "(J)Z"⟩ : MethodName)) hown (mvT hZ (hw _ (List.mem_of_getElem? (i := 18) rfl))) (mvT hZ (hw _ (List.mem_of_getElem? (i := 19) rfl))) (notFace_of_selects (args := #[]) (mvT hZ (hw _ (List.mem_of_getElem? (i := 21) rfl)))) (mvT hZ (hw _ (List.mem_of_getElem? (i := 21) rfl))) (mvT hZ (hw _ (List.mem_of_getElem? (i := 20) rfl))) (by decide) (backOf (W := 0) (rm3 l Z a0 hw [] b7 u0 (u0 + (32000000000 : Int64)) T8.heap n0 Z8 Fq8_timeoutAt ) hZ (hw _ (List.mem_of_getElem? (i := 22) rfl)) (hw _ (List.mem_of_getElem? (i := 2) rfl)) (by decide) (by decide)) q13a q13c (g := (mkF m 69 #[.val (.long u0), .second, .val (.long u1), .second, .val (.ref b7), .val (.long (u1 >>> ((1 : Int32) &&& 0x3f).toInt64)), .second, .val (.int (0 : Int32)), .val (.int (own_to (u0 + (u1 >>> ((1 : Int32) &&& 0x3f).toInt64)) (u0 + (32000000000 : Int64)))), .val (.int (own_to (u0 + (32000000000 : Int64)) (u0 + (32000000000 : Int64)))), .val (.int (own_to (u0 + (31999999999 : Int64)) (u0 + (32000000000 : Int64)))), .unset] [(.long u0), (.ref b7)])) rfl (by rw [hml]; rfl) (Steps.refl _) (argsL := [(.long u0)]) (rest := []) (lenOf own_pd1 rfl) rfl (by show 2 * 0 + _ ≤ _; exact Nat.le_of_eq rfl) (hb hby at_69) (fun _ _ => ⟨rfl, eq12, (by decide : 1 + 0 ≤ _), (by decide : 4 + 0 ≤ _)⟩)
    dsimp only [Pt.U, Pt.locs, Pt.cells, Pt.slots] at X13 l13 y13 z13 st13 hQ13
    subst l13 y13 z13
    obtain ⟨rfl, Nq13, eq13⟩ := hQ13
    have N13 := Fr.app N12 Nq13
    refine own_tr st13 ?_
    show own_Go _ _ _ _ (T13.setTop (mkF m 72 #[.val (.long u0), .second, .val (.long u1), .second, .val (.ref b7), .val (.long (u1 >>> ((1 : Int32) &&& 0x3f).toInt64)), .second, .val (.int (0 : Int32)), .val (.int (own_to (u0 + (u1 >>> ((1 : Int32) &&& 0x3f).toInt64)) (u0 + (32000000000 : Int64)))), .val (.int (own_to (u0 + (32000000000 : Int64)) (u0 + (32000000000 : Int64)))), .val (.int (own_to (u0 + (31999999999 : Int64)) (u0 + (32000000000 : Int64)))), .unset] [(.int (own_to u0 (u0 + (32000000000 : Int64))))]))
    refine own_st (fun _ k => XS.istore X13.here hx rfl (hb hby at_72) rfl (l' := #[.val (.long u0), .second, .val (.long u1), .second, .val (.ref b7), .val (.long (u1 >>> ((1 : Int32) &&& 0x3f).toInt64)), .second, .val (.int (0 : Int32)), .val (.int (own_to (u0 + (u1 >>> ((1 : Int32) &&& 0x3f).toInt64)) (u0 + (32000000000 : Int64)))), .val (.int (own_to (u0 + (32000000000 : Int64)) (u0 + (32000000000 : Int64)))), .val (.int (own_to (u0 + (31999999999 : Int64)) (u0 + (32000000000 : Int64)))), .val (.int (own_to u0 (u0 + (32000000000 : Int64))))]) rfl k) ?_
    show own_Go _ _ _ _ (T13.setTop (mkF m 74 #[.val (.long u0), .second, .val (.long u1), .second, .val (.ref b7), .val (.long (u1 >>> ((1 : Int32) &&& 0x3f).toInt64)), .second, .val (.int (0 : Int32)), .val (.int (own_to (u0 + (u1 >>> ((1 : Int32) &&& 0x3f).toInt64)) (u0 + (32000000000 : Int64)))), .val (.int (own_to (u0 + (32000000000 : Int64)) (u0 + (32000000000 : Int64)))), .val (.int (own_to (u0 + (31999999999 : Int64)) (u0 + (32000000000 : Int64)))), .val (.int (own_to u0 (u0 + (32000000000 : Int64))))] []))
    refine own_st (fun _ k => XS.iload X13.here hx rfl (hb hby at_74) rfl k) ?_
    show own_Go _ _ _ _ (T13.setTop (mkF m 76 #[.val (.long u0), .second, .val (.long u1), .second, .val (.ref b7), .val (.long (u1 >>> ((1 : Int32) &&& 0x3f).toInt64)), .second, .val (.int (0 : Int32)), .val (.int (own_to (u0 + (u1 >>> ((1 : Int32) &&& 0x3f).toInt64)) (u0 + (32000000000 : Int64)))), .val (.int (own_to (u0 + (32000000000 : Int64)) (u0 + (32000000000 : Int64)))), .val (.int (own_to (u0 + (31999999999 : Int64)) (u0 + (32000000000 : Int64)))), .val (.int (own_to u0 (u0 + (32000000000 : Int64))))] [(.int (own_to (u0 + (u1 >>> ((1 : Int32) &&& 0x3f).toInt64)) (u0 + (32000000000 : Int64))))]))
    refine own_st (fun _ k => XS.iload X13.here hx rfl (hb hby at_76) rfl k) ?_
    show own_Go _ _ _ _ (T13.setTop (mkF m 78 #[.val (.long u0), .second, .val (.long u1), .second, .val (.ref b7), .val (.long (u1 >>> ((1 : Int32) &&& 0x3f).toInt64)), .second, .val (.int (0 : Int32)), .val (.int (own_to (u0 + (u1 >>> ((1 : Int32) &&& 0x3f).toInt64)) (u0 + (32000000000 : Int64)))), .val (.int (own_to (u0 + (32000000000 : Int64)) (u0 + (32000000000 : Int64)))), .val (.int (own_to (u0 + (31999999999 : Int64)) (u0 + (32000000000 : Int64)))), .val (.int (own_to u0 (u0 + (32000000000 : Int64))))] [(.int (0 : Int32)), (.int (own_to (u0 + (u1 >>> ((1 : Int32) &&& 0x3f).toInt64)) (u0 + (32000000000 : Int64))))]))
    refine own_st (fun _ k => XS.icmpNo X13.here hx rfl (hb hby at_78) rfl (teq (own_y _ _ hc9)).2 k) ?_
    show own_Go _ _ _ _ (T13.setTop (mkF m 81 #[.val (.long u0), .second, .val (.long u1), .second, .val (.ref b7), .val (.long (u1 >>> ((1 : Int32) &&& 0x3f).toInt64)), .second, .val (.int (0 : Int32)), .val (.int (own_to (u0 + (u1 >>> ((1 : Int32) &&& 0x3f).toInt64)) (u0 + (32000000000 : Int64)))), .val (.int (own_to (u0 + (32000000000 : Int64)) (u0 + (32000000000 : Int64)))), .val (.int (own_to (u0 + (31999999999 : Int64)) (u0 + (32000000000 : Int64)))), .val (.int (own_to u0 (u0 + (32000000000 : Int64))))] []))
    refine own_st (fun _ k => XS.iload X13.here hx rfl (hb hby at_81) rfl k) ?_
    show own_Go _ _ _ _ (T13.setTop (mkF m 83 #[.val (.long u0), .second, .val (.long u1), .second, .val (.ref b7), .val (.long (u1 >>> ((1 : Int32) &&& 0x3f).toInt64)), .second, .val (.int (0 : Int32)), .val (.int (own_to (u0 + (u1 >>> ((1 : Int32) &&& 0x3f).toInt64)) (u0 + (32000000000 : Int64)))), .val (.int (own_to (u0 + (32000000000 : Int64)) (u0 + (32000000000 : Int64)))), .val (.int (own_to (u0 + (31999999999 : Int64)) (u0 + (32000000000 : Int64)))), .val (.int (own_to u0 (u0 + (32000000000 : Int64))))] [(.int (own_to (u0 + (32000000000 : Int64)) (u0 + (32000000000 : Int64))))]))
    refine own_st (fun _ k => XS.ifNo X13.here hx rfl (hb hby at_83) rfl ((if0 _ _).trans (feq (own_dl _)).1) k) ?_
    show own_Go _ _ _ _ (T13.setTop (mkF m 86 #[.val (.long u0), .second, .val (.long u1), .second, .val (.ref b7), .val (.long (u1 >>> ((1 : Int32) &&& 0x3f).toInt64)), .second, .val (.int (0 : Int32)), .val (.int (own_to (u0 + (u1 >>> ((1 : Int32) &&& 0x3f).toInt64)) (u0 + (32000000000 : Int64)))), .val (.int (own_to (u0 + (32000000000 : Int64)) (u0 + (32000000000 : Int64)))), .val (.int (own_to (u0 + (31999999999 : Int64)) (u0 + (32000000000 : Int64)))), .val (.int (own_to u0 (u0 + (32000000000 : Int64))))] []))
    refine own_st (fun _ k => XS.iload X13.here hx rfl (hb hby at_86) rfl k) ?_
    show own_Go _ _ _ _ (T13.setTop (mkF m 88 #[.val (.long u0), .second, .val (.long u1), .second, .val (.ref b7), .val (.long (u1 >>> ((1 : Int32) &&& 0x3f).toInt64)), .second, .val (.int (0 : Int32)), .val (.int (own_to (u0 + (u1 >>> ((1 : Int32) &&& 0x3f).toInt64)) (u0 + (32000000000 : Int64)))), .val (.int (own_to (u0 + (32000000000 : Int64)) (u0 + (32000000000 : Int64)))), .val (.int (own_to (u0 + (31999999999 : Int64)) (u0 + (32000000000 : Int64)))), .val (.int (own_to u0 (u0 + (32000000000 : Int64))))] [(.int (own_to (u0 + (31999999999 : Int64)) (u0 + (32000000000 : Int64))))]))
    refine own_st (fun _ k => XS.ifNo X13.here hx rfl (hb hby at_88) rfl ((if0 _ _).trans (teq (own_jb _)).2) k) ?_
    show own_Go _ _ _ _ (T13.setTop (mkF m 91 #[.val (.long u0), .second, .val (.long u1), .second, .val (.ref b7), .val (.long (u1 >>> ((1 : Int32) &&& 0x3f).toInt64)), .second, .val (.int (0 : Int32)), .val (.int (own_to (u0 + (u1 >>> ((1 : Int32) &&& 0x3f).toInt64)) (u0 + (32000000000 : Int64)))), .val (.int (own_to (u0 + (32000000000 : Int64)) (u0 + (32000000000 : Int64)))), .val (.int (own_to (u0 + (31999999999 : Int64)) (u0 + (32000000000 : Int64)))), .val (.int (own_to u0 (u0 + (32000000000 : Int64))))] []))
    refine own_st (fun _ k => XS.iload X13.here hx rfl (hb hby at_91) rfl k) ?_
    show own_Go _ _ _ _ (T13.setTop (mkF m 93 #[.val (.long u0), .second, .val (.long u1), .second, .val (.ref b7), .val (.long (u1 >>> ((1 : Int32) &&& 0x3f).toInt64)), .second, .val (.int (0 : Int32)), .val (.int (own_to (u0 + (u1 >>> ((1 : Int32) &&& 0x3f).toInt64)) (u0 + (32000000000 : Int64)))), .val (.int (own_to (u0 + (32000000000 : Int64)) (u0 + (32000000000 : Int64)))), .val (.int (own_to (u0 + (31999999999 : Int64)) (u0 + (32000000000 : Int64)))), .val (.int (own_to u0 (u0 + (32000000000 : Int64))))] [(.int (own_to u0 (u0 + (32000000000 : Int64))))]))
    refine own_st (fun _ k => XS.ifNo X13.here hx rfl (hb hby at_93) rfl ((if0 _ _).trans (teq (own_as _)).2) k) ?_
    show own_Go _ _ _ _ (T13.setTop (mkF m 96 #[.val (.long u0), .second, .val (.long u1), .second, .val (.ref b7), .val (.long (u1 >>> ((1 : Int32) &&& 0x3f).toInt64)), .second, .val (.int (0 : Int32)), .val (.int (own_to (u0 + (u1 >>> ((1 : Int32) &&& 0x3f).toInt64)) (u0 + (32000000000 : Int64)))), .val (.int (own_to (u0 + (32000000000 : Int64)) (u0 + (32000000000 : Int64)))), .val (.int (own_to (u0 + (31999999999 : Int64)) (u0 + (32000000000 : Int64)))), .val (.int (own_to u0 (u0 + (32000000000 : Int64))))] []))
    refine own_st (fun _ k => XS.iconst X13.here hx rfl (hb hby at_96) k) ?_
    show own_Go _ _ _ _ (T13.setTop (mkF m 97 #[.val (.long u0), .second, .val (.long u1), .second, .val (.ref b7), .val (.long (u1 >>> ((1 : Int32) &&& 0x3f).toInt64)), .second, .val (.int (0 : Int32)), .val (.int (own_to (u0 + (u1 >>> ((1 : Int32) &&& 0x3f).toInt64)) (u0 + (32000000000 : Int64)))), .val (.int (own_to (u0 + (32000000000 : Int64)) (u0 + (32000000000 : Int64)))), .val (.int (own_to (u0 + (31999999999 : Int64)) (u0 + (32000000000 : Int64)))), .val (.int (own_to u0 (u0 + (32000000000 : Int64))))] [(.int (1 : Int32))]))
    refine own_st (fun _ k => XS.goto X13.here hx rfl (pc0 := 97) (pc' := 101) rfl (hb hby at_97) (by decide) (by decide) k) ?_
    show own_Go _ _ _ _ (T13.setTop (mkF m 101 #[.val (.long u0), .second, .val (.long u1), .second, .val (.ref b7), .val (.long (u1 >>> ((1 : Int32) &&& 0x3f).toInt64)), .second, .val (.int (0 : Int32)), .val (.int (own_to (u0 + (u1 >>> ((1 : Int32) &&& 0x3f).toInt64)) (u0 + (32000000000 : Int64)))), .val (.int (own_to (u0 + (32000000000 : Int64)) (u0 + (32000000000 : Int64)))), .val (.int (own_to (u0 + (31999999999 : Int64)) (u0 + (32000000000 : Int64)))), .val (.int (own_to u0 (u0 + (32000000000 : Int64))))] [(.int (1 : Int32))]))
    obtain ⟨fs, hr, hrun, hended, hW, hsame⟩ := X13.leave (v := some (.int (1 : Int32))) (fun h => by rw [Bd.returns] at h; cases h)
    refine own_out (retN X13 hx (t := .boolean) Bd.returns (by simp) (hb hby at_101) hr) ⟨hrun, hended, _, _, rfl, ?_, ⟨_, rfl⟩, hW, hsame.mono (by decide) (by decide)⟩
    show Q0 Z u0 u1 h0 n0 _ T13.heap _
    exact ⟨rfl, N13⟩
  · skip
    refine own_st (fun _ k => XS.ifNo X8.here hx rfl (hb hby at_21) rfl ((if0 _ _).trans (flt hc9).1) k) ?_
    show own_Go _ _ _ _ (T8.setTop (mkF m 24 #[.val (.long u0), .second, .val (.long u1), .second, .val (.ref b7), .val (.long (u1 >>> ((1 : Int32) &&& 0x3f).toInt64)), .second, .unset, .unset, .unset, .unset, .unset] []))
    refine own_st (fun _ k => XS.iconst X8.here hx rfl (hb hby at_24) k) ?_
    show own_Go _ _ _ _ (T8.setTop (mkF m 25 #[.val (.long u0), .second, .val (.long u1), .second, .val (.ref b7), .val (.long (u1 >>> ((1 : Int32) &&& 0x3f).toInt64)), .second, .unset, .unset, .unset, .unset, .unset] [(.int (1 : Int32))]))
    refine own_st (fun _ k => XS.goto X8.here hx rfl (pc0 := 25) (pc' := 29) rfl (hb hby at_25) (by decide) (by decide) k) ?_
    show own_Go _ _ _ _ (T8.setTop (mkF m 29 #[.val (.long u0), .second, .val (.long u1), .second, .val (.ref b7), .val (.long (u1 >>> ((1 : Int32) &&& 0x3f).toInt64)), .second, .unset, .unset, .unset, .unset, .unset] [(.int (1 : Int32))]))
    refine own_st (fun _ k => XS.istore X8.here hx rfl (hb hby at_29) rfl (l' := #[.val (.long u0), .second, .val (.long u1), .second, .val (.ref b7), .val (.long (u1 >>> ((1 : Int32) &&& 0x3f).toInt64)), .second, .val (.int (1 : Int32)), .unset, .unset, .unset, .unset]) rfl k) ?_
    show own_Go _ _ _ _ (T8.setTop (mkF m 31 #[.val (.long u0), .second, .val (.long u1), .second, .val (.ref b7), .val (.long (u1 >>> ((1 : Int32) &&& 0x3f).toInt64)), .second, .val (.int (1 : Int32)), .unset, .unset, .unset, .unset] []))
    refine own_st (fun _ k => XS.aload X8.here hx rfl (hb hby at_31) rfl rfl k) ?_
    show own_Go _ _ _ _ (T8.setTop (mkF m 33 #[.val (.long u0), .second, .val (.long u1), .second, .val (.ref b7), .val (.long (u1 >>> ((1 : Int32) &&& 0x3f).toInt64)), .second, .val (.int (1 : Int32)), .unset, .unset, .unset, .unset] [(.ref b7)]))
    refine own_st (fun _ k => XS.lloadN X8.here hx rfl (hb hby at_33) rfl k) ?_
    show own_Go _ _ _ _ (T8.setTop (mkF m 34 #[.val (.long u0), .second, .val (.long u1), .second, .val (.ref b7), .val (.long (u1 >>> ((1 : Int32) &&& 0x3f).toInt64)), .second, .val (.int (1 : Int32)), .unset, .unset, .unset, .unset] [(.long u0), (.ref b7)]))
    refine own_st (fun _ k => XS.lload X8.here hx rfl (hb hby at_34) rfl k) ?_
    show own_Go _ _ _ _ (T8.setTop (mkF m 36 #[.val (.long u0), .second, .val (.long u1), .second, .val (.ref b7), .val (.long (u1 >>> ((1 : Int32) &&& 0x3f).toInt64)), .second, .val (.int (1 : Int32)), .unset, .unset, .unset, .unset] [(.long (u1 >>> ((1 : Int32) &&& 0x3f).toInt64)), (.long u0), (.ref b7)]))
    refine own_st (fun _ k => XS.ladd X8.here hx rfl (hb hby at_36) rfl k) ?_
    show own_Go _ _ _ _ (T8.setTop (mkF m 37 #[.val (.long u0), .second, .val (.long u1), .second, .val (.ref b7), .val (.long (u1 >>> ((1 : Int32) &&& 0x3f).toInt64)), .second, .val (.int (1 : Int32)), .unset, .unset, .unset, .unset] [(.long (u0 + (u1 >>> ((1 : Int32) &&& 0x3f).toInt64))), (.ref b7)]))
    obtain ⟨cq14, kq14, q14a, q14b, q14c⟩ := isOf hZ rfl z8_E_b7
    obtain ⟨_, _, ⟨T14, L14, k14, n14⟩, -, X14, ⟨Lc14, hQ14, l14, y14, z14⟩, st14⟩ := X8.virtualBack hx (y := (⟨"com/example/troskel/troskel/service/RetransmissionTimer", "timedOut", "(J)Z"⟩ : MethodName)) (z := (⟨"com/example/troskel/troskel/service/RetransmissionTimer", "timedOut", "(J)Z"⟩ : MethodName)) hown (mvT hZ (hw _ (List.mem_of_getElem? (i := 18) rfl))) (mvT hZ (hw _ (List.mem_of_getElem? (i := 19) rfl))) (notFace_of_selects (args := #[]) (mvT hZ (hw _ (List.mem_of_getElem? (i := 21) rfl)))) (mvT hZ (hw _ (List.mem_of_getElem? (i := 21) rfl))) (mvT hZ (hw _ (List.mem_of_getElem? (i := 20) rfl))) (by decide) (backOf (W := 0) (rm3 l Z a0 hw [] b7 (u0 + (u1 >>> ((1 : Int32) &&& 0x3f).toInt64)) (u0 + (32000000000 : Int64)) T8.heap n0 Z8 Fq8_timeoutAt ) hZ (hw _ (List.mem_of_getElem? (i := 22) rfl)) (hw _ (List.mem_of_getElem? (i := 2) rfl)) (by decide) (by decide)) q14a q14c (g := (mkF m 37 #[.val (.long u0), .second, .val (.long u1), .second, .val (.ref b7), .val (.long (u1 >>> ((1 : Int32) &&& 0x3f).toInt64)), .second, .val (.int (1 : Int32)), .unset, .unset, .unset, .unset] [(.long (u0 + (u1 >>> ((1 : Int32) &&& 0x3f).toInt64))), (.ref b7)])) rfl (by rw [hml]; rfl) (Steps.refl _) (argsL := [(.long (u0 + (u1 >>> ((1 : Int32) &&& 0x3f).toInt64)))]) (rest := []) (lenOf own_pd1 rfl) rfl (by show 2 * 0 + _ ≤ _; exact Nat.le_of_eq rfl) (hb hby at_37) (fun _ _ => ⟨rfl, rfl, (by decide : 1 + 0 ≤ _), (by decide : 4 + 0 ≤ _)⟩)
    dsimp only [Pt.U, Pt.locs, Pt.cells, Pt.slots] at X14 l14 y14 z14 st14 hQ14
    subst l14 y14 z14
    obtain ⟨rfl, Nq14, eq14⟩ := hQ14
    have N14 := Fr.app N8 Nq14
    refine own_tr st14 ?_
    show own_Go _ _ _ _ (T14.setTop (mkF m 40 #[.val (.long u0), .second, .val (.long u1), .second, .val (.ref b7), .val (.long (u1 >>> ((1 : Int32) &&& 0x3f).toInt64)), .second, .val (.int (1 : Int32)), .unset, .unset, .unset, .unset] [(.int (own_to (u0 + (u1 >>> ((1 : Int32) &&& 0x3f).toInt64)) (u0 + (32000000000 : Int64))))]))
    refine own_st (fun _ k => XS.istore X14.here hx rfl (hb hby at_40) rfl (l' := #[.val (.long u0), .second, .val (.long u1), .second, .val (.ref b7), .val (.long (u1 >>> ((1 : Int32) &&& 0x3f).toInt64)), .second, .val (.int (1 : Int32)), .val (.int (own_to (u0 + (u1 >>> ((1 : Int32) &&& 0x3f).toInt64)) (u0 + (32000000000 : Int64)))), .unset, .unset, .unset]) rfl k) ?_
    show own_Go _ _ _ _ (T14.setTop (mkF m 42 #[.val (.long u0), .second, .val (.long u1), .second, .val (.ref b7), .val (.long (u1 >>> ((1 : Int32) &&& 0x3f).toInt64)), .second, .val (.int (1 : Int32)), .val (.int (own_to (u0 + (u1 >>> ((1 : Int32) &&& 0x3f).toInt64)) (u0 + (32000000000 : Int64)))), .unset, .unset, .unset] []))
    refine own_st (fun _ k => XS.aload X14.here hx rfl (hb hby at_42) rfl rfl k) ?_
    show own_Go _ _ _ _ (T14.setTop (mkF m 44 #[.val (.long u0), .second, .val (.long u1), .second, .val (.ref b7), .val (.long (u1 >>> ((1 : Int32) &&& 0x3f).toInt64)), .second, .val (.int (1 : Int32)), .val (.int (own_to (u0 + (u1 >>> ((1 : Int32) &&& 0x3f).toInt64)) (u0 + (32000000000 : Int64)))), .unset, .unset, .unset] [(.ref b7)]))
    refine own_st (fun _ k => XS.lloadN X14.here hx rfl (hb hby at_44) rfl k) ?_
    show own_Go _ _ _ _ (T14.setTop (mkF m 45 #[.val (.long u0), .second, .val (.long u1), .second, .val (.ref b7), .val (.long (u1 >>> ((1 : Int32) &&& 0x3f).toInt64)), .second, .val (.int (1 : Int32)), .val (.int (own_to (u0 + (u1 >>> ((1 : Int32) &&& 0x3f).toInt64)) (u0 + (32000000000 : Int64)))), .unset, .unset, .unset] [(.long u0), (.ref b7)]))
    refine own_st (fun _ k => X14.ldc2Long hx hown (mvT hZ (hw _ (List.mem_of_getElem? (i := 17) rfl))) (g := (mkF m 45 #[.val (.long u0), .second, .val (.long u1), .second, .val (.ref b7), .val (.long (u1 >>> ((1 : Int32) &&& 0x3f).toInt64)), .second, .val (.int (1 : Int32)), .val (.int (own_to (u0 + (u1 >>> ((1 : Int32) &&& 0x3f).toInt64)) (u0 + (32000000000 : Int64)))), .unset, .unset, .unset] [(.long u0), (.ref b7)])) rfl (hb hby at_45) _ k) ?_
    show own_Go _ _ _ _ (T14.setTop (mkF m 48 #[.val (.long u0), .second, .val (.long u1), .second, .val (.ref b7), .val (.long (u1 >>> ((1 : Int32) &&& 0x3f).toInt64)), .second, .val (.int (1 : Int32)), .val (.int (own_to (u0 + (u1 >>> ((1 : Int32) &&& 0x3f).toInt64)) (u0 + (32000000000 : Int64)))), .unset, .unset, .unset] [(.long (32000000000 : Int64)), (.long u0), (.ref b7)]))
    refine own_st (fun _ k => XS.ladd X14.here hx rfl (hb hby at_48) rfl k) ?_
    show own_Go _ _ _ _ (T14.setTop (mkF m 49 #[.val (.long u0), .second, .val (.long u1), .second, .val (.ref b7), .val (.long (u1 >>> ((1 : Int32) &&& 0x3f).toInt64)), .second, .val (.int (1 : Int32)), .val (.int (own_to (u0 + (u1 >>> ((1 : Int32) &&& 0x3f).toInt64)) (u0 + (32000000000 : Int64)))), .unset, .unset, .unset] [(.long (u0 + (32000000000 : Int64))), (.ref b7)]))
    obtain ⟨cq15, kq15, q15a, q15b, q15c⟩ := isOf hZ eq14 z8_E_b7
    obtain ⟨_, _, ⟨T15, L15, k15, n15⟩, -, X15, ⟨Lc15, hQ15, l15, y15, z15⟩, st15⟩ := X14.virtualBack hx (y := (⟨"com/example/troskel/troskel/service/RetransmissionTimer", "timedOut", "(J)Z"⟩ : MethodName)) (z := (⟨"com/example/troskel/troskel/service/RetransmissionTimer", "timedOut", "(J)Z"⟩ : MethodName)) hown (mvT hZ (hw _ (List.mem_of_getElem? (i := 18) rfl))) (mvT hZ (hw _ (List.mem_of_getElem? (i := 19) rfl))) (notFace_of_selects (args := #[]) (mvT hZ (hw _ (List.mem_of_getElem? (i := 21) rfl)))) (mvT hZ (hw _ (List.mem_of_getElem? (i := 21) rfl))) (mvT hZ (hw _ (List.mem_of_getElem? (i := 20) rfl))) (by decide) (backOf (W := 0) (rm3 l Z a0 hw [] b7 (u0 + (32000000000 : Int64)) (u0 + (32000000000 : Int64)) T8.heap n0 Z8 Fq8_timeoutAt ) hZ (hw _ (List.mem_of_getElem? (i := 22) rfl)) (hw _ (List.mem_of_getElem? (i := 2) rfl)) (by decide) (by decide)) q15a q15c (g := (mkF m 49 #[.val (.long u0), .second, .val (.long u1), .second, .val (.ref b7), .val (.long (u1 >>> ((1 : Int32) &&& 0x3f).toInt64)), .second, .val (.int (1 : Int32)), .val (.int (own_to (u0 + (u1 >>> ((1 : Int32) &&& 0x3f).toInt64)) (u0 + (32000000000 : Int64)))), .unset, .unset, .unset] [(.long (u0 + (32000000000 : Int64))), (.ref b7)])) rfl (by rw [hml]; rfl) (Steps.refl _) (argsL := [(.long (u0 + (32000000000 : Int64)))]) (rest := []) (lenOf own_pd1 rfl) rfl (by show 2 * 0 + _ ≤ _; exact Nat.le_of_eq rfl) (hb hby at_49) (fun _ _ => ⟨rfl, eq14, (by decide : 1 + 0 ≤ _), (by decide : 4 + 0 ≤ _)⟩)
    dsimp only [Pt.U, Pt.locs, Pt.cells, Pt.slots] at X15 l15 y15 z15 st15 hQ15
    subst l15 y15 z15
    obtain ⟨rfl, Nq15, eq15⟩ := hQ15
    have N15 := Fr.app N14 Nq15
    refine own_tr st15 ?_
    show own_Go _ _ _ _ (T15.setTop (mkF m 52 #[.val (.long u0), .second, .val (.long u1), .second, .val (.ref b7), .val (.long (u1 >>> ((1 : Int32) &&& 0x3f).toInt64)), .second, .val (.int (1 : Int32)), .val (.int (own_to (u0 + (u1 >>> ((1 : Int32) &&& 0x3f).toInt64)) (u0 + (32000000000 : Int64)))), .unset, .unset, .unset] [(.int (own_to (u0 + (32000000000 : Int64)) (u0 + (32000000000 : Int64))))]))
    refine own_st (fun _ k => XS.istore X15.here hx rfl (hb hby at_52) rfl (l' := #[.val (.long u0), .second, .val (.long u1), .second, .val (.ref b7), .val (.long (u1 >>> ((1 : Int32) &&& 0x3f).toInt64)), .second, .val (.int (1 : Int32)), .val (.int (own_to (u0 + (u1 >>> ((1 : Int32) &&& 0x3f).toInt64)) (u0 + (32000000000 : Int64)))), .val (.int (own_to (u0 + (32000000000 : Int64)) (u0 + (32000000000 : Int64)))), .unset, .unset]) rfl k) ?_
    show own_Go _ _ _ _ (T15.setTop (mkF m 54 #[.val (.long u0), .second, .val (.long u1), .second, .val (.ref b7), .val (.long (u1 >>> ((1 : Int32) &&& 0x3f).toInt64)), .second, .val (.int (1 : Int32)), .val (.int (own_to (u0 + (u1 >>> ((1 : Int32) &&& 0x3f).toInt64)) (u0 + (32000000000 : Int64)))), .val (.int (own_to (u0 + (32000000000 : Int64)) (u0 + (32000000000 : Int64)))), .unset, .unset] []))
    refine own_st (fun _ k => XS.aload X15.here hx rfl (hb hby at_54) rfl rfl k) ?_
    show own_Go _ _ _ _ (T15.setTop (mkF m 56 #[.val (.long u0), .second, .val (.long u1), .second, .val (.ref b7), .val (.long (u1 >>> ((1 : Int32) &&& 0x3f).toInt64)), .second, .val (.int (1 : Int32)), .val (.int (own_to (u0 + (u1 >>> ((1 : Int32) &&& 0x3f).toInt64)) (u0 + (32000000000 : Int64)))), .val (.int (own_to (u0 + (32000000000 : Int64)) (u0 + (32000000000 : Int64)))), .unset, .unset] [(.ref b7)]))
    refine own_st (fun _ k => XS.lloadN X15.here hx rfl (hb hby at_56) rfl k) ?_
    show own_Go _ _ _ _ (T15.setTop (mkF m 57 #[.val (.long u0), .second, .val (.long u1), .second, .val (.ref b7), .val (.long (u1 >>> ((1 : Int32) &&& 0x3f).toInt64)), .second, .val (.int (1 : Int32)), .val (.int (own_to (u0 + (u1 >>> ((1 : Int32) &&& 0x3f).toInt64)) (u0 + (32000000000 : Int64)))), .val (.int (own_to (u0 + (32000000000 : Int64)) (u0 + (32000000000 : Int64)))), .unset, .unset] [(.long u0), (.ref b7)]))
    refine own_st (fun _ k => X15.ldc2Long hx hown (mvT hZ (hw _ (List.mem_of_getElem? (i := 23) rfl))) (g := (mkF m 57 #[.val (.long u0), .second, .val (.long u1), .second, .val (.ref b7), .val (.long (u1 >>> ((1 : Int32) &&& 0x3f).toInt64)), .second, .val (.int (1 : Int32)), .val (.int (own_to (u0 + (u1 >>> ((1 : Int32) &&& 0x3f).toInt64)) (u0 + (32000000000 : Int64)))), .val (.int (own_to (u0 + (32000000000 : Int64)) (u0 + (32000000000 : Int64)))), .unset, .unset] [(.long u0), (.ref b7)])) rfl (hb hby at_57) _ k) ?_
    show own_Go _ _ _ _ (T15.setTop (mkF m 60 #[.val (.long u0), .second, .val (.long u1), .second, .val (.ref b7), .val (.long (u1 >>> ((1 : Int32) &&& 0x3f).toInt64)), .second, .val (.int (1 : Int32)), .val (.int (own_to (u0 + (u1 >>> ((1 : Int32) &&& 0x3f).toInt64)) (u0 + (32000000000 : Int64)))), .val (.int (own_to (u0 + (32000000000 : Int64)) (u0 + (32000000000 : Int64)))), .unset, .unset] [(.long (31999999999 : Int64)), (.long u0), (.ref b7)]))
    refine own_st (fun _ k => XS.ladd X15.here hx rfl (hb hby at_60) rfl k) ?_
    show own_Go _ _ _ _ (T15.setTop (mkF m 61 #[.val (.long u0), .second, .val (.long u1), .second, .val (.ref b7), .val (.long (u1 >>> ((1 : Int32) &&& 0x3f).toInt64)), .second, .val (.int (1 : Int32)), .val (.int (own_to (u0 + (u1 >>> ((1 : Int32) &&& 0x3f).toInt64)) (u0 + (32000000000 : Int64)))), .val (.int (own_to (u0 + (32000000000 : Int64)) (u0 + (32000000000 : Int64)))), .unset, .unset] [(.long (u0 + (31999999999 : Int64))), (.ref b7)]))
    obtain ⟨cq16, kq16, q16a, q16b, q16c⟩ := isOf hZ eq15 z8_E_b7
    obtain ⟨_, _, ⟨T16, L16, k16, n16⟩, -, X16, ⟨Lc16, hQ16, l16, y16, z16⟩, st16⟩ := X15.virtualBack hx (y := (⟨"com/example/troskel/troskel/service/RetransmissionTimer", "timedOut", "(J)Z"⟩ : MethodName)) (z := (⟨"com/example/troskel/troskel/service/RetransmissionTimer", "timedOut", "(J)Z"⟩ : MethodName)) hown (mvT hZ (hw _ (List.mem_of_getElem? (i := 18) rfl))) (mvT hZ (hw _ (List.mem_of_getElem? (i := 19) rfl))) (notFace_of_selects (args := #[]) (mvT hZ (hw _ (List.mem_of_getElem? (i := 21) rfl)))) (mvT hZ (hw _ (List.mem_of_getElem? (i := 21) rfl))) (mvT hZ (hw _ (List.mem_of_getElem? (i := 20) rfl))) (by decide) (backOf (W := 0) (rm3 l Z a0 hw [] b7 (u0 + (31999999999 : Int64)) (u0 + (32000000000 : Int64)) T8.heap n0 Z8 Fq8_timeoutAt ) hZ (hw _ (List.mem_of_getElem? (i := 22) rfl)) (hw _ (List.mem_of_getElem? (i := 2) rfl)) (by decide) (by decide)) q16a q16c (g := (mkF m 61 #[.val (.long u0), .second, .val (.long u1), .second, .val (.ref b7), .val (.long (u1 >>> ((1 : Int32) &&& 0x3f).toInt64)), .second, .val (.int (1 : Int32)), .val (.int (own_to (u0 + (u1 >>> ((1 : Int32) &&& 0x3f).toInt64)) (u0 + (32000000000 : Int64)))), .val (.int (own_to (u0 + (32000000000 : Int64)) (u0 + (32000000000 : Int64)))), .unset, .unset] [(.long (u0 + (31999999999 : Int64))), (.ref b7)])) rfl (by rw [hml]; rfl) (Steps.refl _) (argsL := [(.long (u0 + (31999999999 : Int64)))]) (rest := []) (lenOf own_pd1 rfl) rfl (by show 2 * 0 + _ ≤ _; exact Nat.le_of_eq rfl) (hb hby at_61) (fun _ _ => ⟨rfl, eq15, (by decide : 1 + 0 ≤ _), (by decide : 4 + 0 ≤ _)⟩)
    dsimp only [Pt.U, Pt.locs, Pt.cells, Pt.slots] at X16 l16 y16 z16 st16 hQ16
    subst l16 y16 z16
    obtain ⟨rfl, Nq16, eq16⟩ := hQ16
    have N16 := Fr.app N15 Nq16
    refine own_tr st16 ?_
    show own_Go _ _ _ _ (T16.setTop (mkF m 64 #[.val (.long u0), .second, .val (.long u1), .second, .val (.ref b7), .val (.long (u1 >>> ((1 : Int32) &&& 0x3f).toInt64)), .second, .val (.int (1 : Int32)), .val (.int (own_to (u0 + (u1 >>> ((1 : Int32) &&& 0x3f).toInt64)) (u0 + (32000000000 : Int64)))), .val (.int (own_to (u0 + (32000000000 : Int64)) (u0 + (32000000000 : Int64)))), .unset, .unset] [(.int (own_to (u0 + (31999999999 : Int64)) (u0 + (32000000000 : Int64))))]))
    refine own_st (fun _ k => XS.istore X16.here hx rfl (hb hby at_64) rfl (l' := #[.val (.long u0), .second, .val (.long u1), .second, .val (.ref b7), .val (.long (u1 >>> ((1 : Int32) &&& 0x3f).toInt64)), .second, .val (.int (1 : Int32)), .val (.int (own_to (u0 + (u1 >>> ((1 : Int32) &&& 0x3f).toInt64)) (u0 + (32000000000 : Int64)))), .val (.int (own_to (u0 + (32000000000 : Int64)) (u0 + (32000000000 : Int64)))), .val (.int (own_to (u0 + (31999999999 : Int64)) (u0 + (32000000000 : Int64)))), .unset]) rfl k) ?_
    show own_Go _ _ _ _ (T16.setTop (mkF m 66 #[.val (.long u0), .second, .val (.long u1), .second, .val (.ref b7), .val (.long (u1 >>> ((1 : Int32) &&& 0x3f).toInt64)), .second, .val (.int (1 : Int32)), .val (.int (own_to (u0 + (u1 >>> ((1 : Int32) &&& 0x3f).toInt64)) (u0 + (32000000000 : Int64)))), .val (.int (own_to (u0 + (32000000000 : Int64)) (u0 + (32000000000 : Int64)))), .val (.int (own_to (u0 + (31999999999 : Int64)) (u0 + (32000000000 : Int64)))), .unset] []))
    refine own_st (fun _ k => XS.aload X16.here hx rfl (hb hby at_66) rfl rfl k) ?_
    show own_Go _ _ _ _ (T16.setTop (mkF m 68 #[.val (.long u0), .second, .val (.long u1), .second, .val (.ref b7), .val (.long (u1 >>> ((1 : Int32) &&& 0x3f).toInt64)), .second, .val (.int (1 : Int32)), .val (.int (own_to (u0 + (u1 >>> ((1 : Int32) &&& 0x3f).toInt64)) (u0 + (32000000000 : Int64)))), .val (.int (own_to (u0 + (32000000000 : Int64)) (u0 + (32000000000 : Int64)))), .val (.int (own_to (u0 + (31999999999 : Int64)) (u0 + (32000000000 : Int64)))), .unset] [(.ref b7)]))
    refine own_st (fun _ k => XS.lloadN X16.here hx rfl (hb hby at_68) rfl k) ?_
    show own_Go _ _ _ _ (T16.setTop (mkF m 69 #[.val (.long u0), .second, .val (.long u1), .second, .val (.ref b7), .val (.long (u1 >>> ((1 : Int32) &&& 0x3f).toInt64)), .second, .val (.int (1 : Int32)), .val (.int (own_to (u0 + (u1 >>> ((1 : Int32) &&& 0x3f).toInt64)) (u0 + (32000000000 : Int64)))), .val (.int (own_to (u0 + (32000000000 : Int64)) (u0 + (32000000000 : Int64)))), .val (.int (own_to (u0 + (31999999999 : Int64)) (u0 + (32000000000 : Int64)))), .unset] [(.long u0), (.ref b7)]))
    obtain ⟨cq17, kq17, q17a, q17b, q17c⟩ := isOf hZ eq16 z8_E_b7
    obtain ⟨_, _, ⟨T17, L17, k17, n17⟩, -, X17, ⟨Lc17, hQ17, l17, y17, z17⟩, st17⟩ := X16.virtualBack hx (y := (⟨"com/example/troskel/troskel/service/RetransmissionTimer", "timedOut", "(J)Z"⟩ : MethodName)) (z := (⟨"com/example/troskel/troskel/service/RetransmissionTimer", "timedOut", "(J)Z"⟩ : MethodName)) hown (mvT hZ (hw _ (List.mem_of_getElem? (i := 18) rfl))) (mvT hZ (hw _ (List.mem_of_getElem? (i := 19) rfl))) (notFace_of_selects (args := #[]) (mvT hZ (hw _ (List.mem_of_getElem? (i := 21) rfl)))) (mvT hZ (hw _ (List.mem_of_getElem? (i := 21) rfl))) (mvT hZ (hw _ (List.mem_of_getElem? (i := 20) rfl))) (by decide) (backOf (W := 0) (rm3 l Z a0 hw [] b7 u0 (u0 + (32000000000 : Int64)) T8.heap n0 Z8 Fq8_timeoutAt ) hZ (hw _ (List.mem_of_getElem? (i := 22) rfl)) (hw _ (List.mem_of_getElem? (i := 2) rfl)) (by decide) (by decide)) q17a q17c (g := (mkF m 69 #[.val (.long u0), .second, .val (.long u1), .second, .val (.ref b7), .val (.long (u1 >>> ((1 : Int32) &&& 0x3f).toInt64)), .second, .val (.int (1 : Int32)), .val (.int (own_to (u0 + (u1 >>> ((1 : Int32) &&& 0x3f).toInt64)) (u0 + (32000000000 : Int64)))), .val (.int (own_to (u0 + (32000000000 : Int64)) (u0 + (32000000000 : Int64)))), .val (.int (own_to (u0 + (31999999999 : Int64)) (u0 + (32000000000 : Int64)))), .unset] [(.long u0), (.ref b7)])) rfl (by rw [hml]; rfl) (Steps.refl _) (argsL := [(.long u0)]) (rest := []) (lenOf own_pd1 rfl) rfl (by show 2 * 0 + _ ≤ _; exact Nat.le_of_eq rfl) (hb hby at_69) (fun _ _ => ⟨rfl, eq16, (by decide : 1 + 0 ≤ _), (by decide : 4 + 0 ≤ _)⟩)
    dsimp only [Pt.U, Pt.locs, Pt.cells, Pt.slots] at X17 l17 y17 z17 st17 hQ17
    subst l17 y17 z17
    obtain ⟨rfl, Nq17, eq17⟩ := hQ17
    have N17 := Fr.app N16 Nq17
    refine own_tr st17 ?_
    show own_Go _ _ _ _ (T17.setTop (mkF m 72 #[.val (.long u0), .second, .val (.long u1), .second, .val (.ref b7), .val (.long (u1 >>> ((1 : Int32) &&& 0x3f).toInt64)), .second, .val (.int (1 : Int32)), .val (.int (own_to (u0 + (u1 >>> ((1 : Int32) &&& 0x3f).toInt64)) (u0 + (32000000000 : Int64)))), .val (.int (own_to (u0 + (32000000000 : Int64)) (u0 + (32000000000 : Int64)))), .val (.int (own_to (u0 + (31999999999 : Int64)) (u0 + (32000000000 : Int64)))), .unset] [(.int (own_to u0 (u0 + (32000000000 : Int64))))]))
    refine own_st (fun _ k => XS.istore X17.here hx rfl (hb hby at_72) rfl (l' := #[.val (.long u0), .second, .val (.long u1), .second, .val (.ref b7), .val (.long (u1 >>> ((1 : Int32) &&& 0x3f).toInt64)), .second, .val (.int (1 : Int32)), .val (.int (own_to (u0 + (u1 >>> ((1 : Int32) &&& 0x3f).toInt64)) (u0 + (32000000000 : Int64)))), .val (.int (own_to (u0 + (32000000000 : Int64)) (u0 + (32000000000 : Int64)))), .val (.int (own_to (u0 + (31999999999 : Int64)) (u0 + (32000000000 : Int64)))), .val (.int (own_to u0 (u0 + (32000000000 : Int64))))]) rfl k) ?_
    show own_Go _ _ _ _ (T17.setTop (mkF m 74 #[.val (.long u0), .second, .val (.long u1), .second, .val (.ref b7), .val (.long (u1 >>> ((1 : Int32) &&& 0x3f).toInt64)), .second, .val (.int (1 : Int32)), .val (.int (own_to (u0 + (u1 >>> ((1 : Int32) &&& 0x3f).toInt64)) (u0 + (32000000000 : Int64)))), .val (.int (own_to (u0 + (32000000000 : Int64)) (u0 + (32000000000 : Int64)))), .val (.int (own_to (u0 + (31999999999 : Int64)) (u0 + (32000000000 : Int64)))), .val (.int (own_to u0 (u0 + (32000000000 : Int64))))] []))
    refine own_st (fun _ k => XS.iload X17.here hx rfl (hb hby at_74) rfl k) ?_
    show own_Go _ _ _ _ (T17.setTop (mkF m 76 #[.val (.long u0), .second, .val (.long u1), .second, .val (.ref b7), .val (.long (u1 >>> ((1 : Int32) &&& 0x3f).toInt64)), .second, .val (.int (1 : Int32)), .val (.int (own_to (u0 + (u1 >>> ((1 : Int32) &&& 0x3f).toInt64)) (u0 + (32000000000 : Int64)))), .val (.int (own_to (u0 + (32000000000 : Int64)) (u0 + (32000000000 : Int64)))), .val (.int (own_to (u0 + (31999999999 : Int64)) (u0 + (32000000000 : Int64)))), .val (.int (own_to u0 (u0 + (32000000000 : Int64))))] [(.int (own_to (u0 + (u1 >>> ((1 : Int32) &&& 0x3f).toInt64)) (u0 + (32000000000 : Int64))))]))
    refine own_st (fun _ k => XS.iload X17.here hx rfl (hb hby at_76) rfl k) ?_
    show own_Go _ _ _ _ (T17.setTop (mkF m 78 #[.val (.long u0), .second, .val (.long u1), .second, .val (.ref b7), .val (.long (u1 >>> ((1 : Int32) &&& 0x3f).toInt64)), .second, .val (.int (1 : Int32)), .val (.int (own_to (u0 + (u1 >>> ((1 : Int32) &&& 0x3f).toInt64)) (u0 + (32000000000 : Int64)))), .val (.int (own_to (u0 + (32000000000 : Int64)) (u0 + (32000000000 : Int64)))), .val (.int (own_to (u0 + (31999999999 : Int64)) (u0 + (32000000000 : Int64)))), .val (.int (own_to u0 (u0 + (32000000000 : Int64))))] [(.int (1 : Int32)), (.int (own_to (u0 + (u1 >>> ((1 : Int32) &&& 0x3f).toInt64)) (u0 + (32000000000 : Int64))))]))
    refine own_st (fun _ k => XS.icmpNo X17.here hx rfl (hb hby at_78) rfl (teq (own_n _ _ hc9)).2 k) ?_
    show own_Go _ _ _ _ (T17.setTop (mkF m 81 #[.val (.long u0), .second, .val (.long u1), .second, .val (.ref b7), .val (.long (u1 >>> ((1 : Int32) &&& 0x3f).toInt64)), .second, .val (.int (1 : Int32)), .val (.int (own_to (u0 + (u1 >>> ((1 : Int32) &&& 0x3f).toInt64)) (u0 + (32000000000 : Int64)))), .val (.int (own_to (u0 + (32000000000 : Int64)) (u0 + (32000000000 : Int64)))), .val (.int (own_to (u0 + (31999999999 : Int64)) (u0 + (32000000000 : Int64)))), .val (.int (own_to u0 (u0 + (32000000000 : Int64))))] []))
    refine own_st (fun _ k => XS.iload X17.here hx rfl (hb hby at_81) rfl k) ?_
    show own_Go _ _ _ _ (T17.setTop (mkF m 83 #[.val (.long u0), .second, .val (.long u1), .second, .val (.ref b7), .val (.long (u1 >>> ((1 : Int32) &&& 0x3f).toInt64)), .second, .val (.int (1 : Int32)), .val (.int (own_to (u0 + (u1 >>> ((1 : Int32) &&& 0x3f).toInt64)) (u0 + (32000000000 : Int64)))), .val (.int (own_to (u0 + (32000000000 : Int64)) (u0 + (32000000000 : Int64)))), .val (.int (own_to (u0 + (31999999999 : Int64)) (u0 + (32000000000 : Int64)))), .val (.int (own_to u0 (u0 + (32000000000 : Int64))))] [(.int (own_to (u0 + (32000000000 : Int64)) (u0 + (32000000000 : Int64))))]))
    refine own_st (fun _ k => XS.ifNo X17.here hx rfl (hb hby at_83) rfl ((if0 _ _).trans (feq (own_dl _)).1) k) ?_
    show own_Go _ _ _ _ (T17.setTop (mkF m 86 #[.val (.long u0), .second, .val (.long u1), .second, .val (.ref b7), .val (.long (u1 >>> ((1 : Int32) &&& 0x3f).toInt64)), .second, .val (.int (1 : Int32)), .val (.int (own_to (u0 + (u1 >>> ((1 : Int32) &&& 0x3f).toInt64)) (u0 + (32000000000 : Int64)))), .val (.int (own_to (u0 + (32000000000 : Int64)) (u0 + (32000000000 : Int64)))), .val (.int (own_to (u0 + (31999999999 : Int64)) (u0 + (32000000000 : Int64)))), .val (.int (own_to u0 (u0 + (32000000000 : Int64))))] []))
    refine own_st (fun _ k => XS.iload X17.here hx rfl (hb hby at_86) rfl k) ?_
    show own_Go _ _ _ _ (T17.setTop (mkF m 88 #[.val (.long u0), .second, .val (.long u1), .second, .val (.ref b7), .val (.long (u1 >>> ((1 : Int32) &&& 0x3f).toInt64)), .second, .val (.int (1 : Int32)), .val (.int (own_to (u0 + (u1 >>> ((1 : Int32) &&& 0x3f).toInt64)) (u0 + (32000000000 : Int64)))), .val (.int (own_to (u0 + (32000000000 : Int64)) (u0 + (32000000000 : Int64)))), .val (.int (own_to (u0 + (31999999999 : Int64)) (u0 + (32000000000 : Int64)))), .val (.int (own_to u0 (u0 + (32000000000 : Int64))))] [(.int (own_to (u0 + (31999999999 : Int64)) (u0 + (32000000000 : Int64))))]))
    refine own_st (fun _ k => XS.ifNo X17.here hx rfl (hb hby at_88) rfl ((if0 _ _).trans (teq (own_jb _)).2) k) ?_
    show own_Go _ _ _ _ (T17.setTop (mkF m 91 #[.val (.long u0), .second, .val (.long u1), .second, .val (.ref b7), .val (.long (u1 >>> ((1 : Int32) &&& 0x3f).toInt64)), .second, .val (.int (1 : Int32)), .val (.int (own_to (u0 + (u1 >>> ((1 : Int32) &&& 0x3f).toInt64)) (u0 + (32000000000 : Int64)))), .val (.int (own_to (u0 + (32000000000 : Int64)) (u0 + (32000000000 : Int64)))), .val (.int (own_to (u0 + (31999999999 : Int64)) (u0 + (32000000000 : Int64)))), .val (.int (own_to u0 (u0 + (32000000000 : Int64))))] []))
    refine own_st (fun _ k => XS.iload X17.here hx rfl (hb hby at_91) rfl k) ?_
    show own_Go _ _ _ _ (T17.setTop (mkF m 93 #[.val (.long u0), .second, .val (.long u1), .second, .val (.ref b7), .val (.long (u1 >>> ((1 : Int32) &&& 0x3f).toInt64)), .second, .val (.int (1 : Int32)), .val (.int (own_to (u0 + (u1 >>> ((1 : Int32) &&& 0x3f).toInt64)) (u0 + (32000000000 : Int64)))), .val (.int (own_to (u0 + (32000000000 : Int64)) (u0 + (32000000000 : Int64)))), .val (.int (own_to (u0 + (31999999999 : Int64)) (u0 + (32000000000 : Int64)))), .val (.int (own_to u0 (u0 + (32000000000 : Int64))))] [(.int (own_to u0 (u0 + (32000000000 : Int64))))]))
    refine own_st (fun _ k => XS.ifNo X17.here hx rfl (hb hby at_93) rfl ((if0 _ _).trans (teq (own_as _)).2) k) ?_
    show own_Go _ _ _ _ (T17.setTop (mkF m 96 #[.val (.long u0), .second, .val (.long u1), .second, .val (.ref b7), .val (.long (u1 >>> ((1 : Int32) &&& 0x3f).toInt64)), .second, .val (.int (1 : Int32)), .val (.int (own_to (u0 + (u1 >>> ((1 : Int32) &&& 0x3f).toInt64)) (u0 + (32000000000 : Int64)))), .val (.int (own_to (u0 + (32000000000 : Int64)) (u0 + (32000000000 : Int64)))), .val (.int (own_to (u0 + (31999999999 : Int64)) (u0 + (32000000000 : Int64)))), .val (.int (own_to u0 (u0 + (32000000000 : Int64))))] []))
    refine own_st (fun _ k => XS.iconst X17.here hx rfl (hb hby at_96) k) ?_
    show own_Go _ _ _ _ (T17.setTop (mkF m 97 #[.val (.long u0), .second, .val (.long u1), .second, .val (.ref b7), .val (.long (u1 >>> ((1 : Int32) &&& 0x3f).toInt64)), .second, .val (.int (1 : Int32)), .val (.int (own_to (u0 + (u1 >>> ((1 : Int32) &&& 0x3f).toInt64)) (u0 + (32000000000 : Int64)))), .val (.int (own_to (u0 + (32000000000 : Int64)) (u0 + (32000000000 : Int64)))), .val (.int (own_to (u0 + (31999999999 : Int64)) (u0 + (32000000000 : Int64)))), .val (.int (own_to u0 (u0 + (32000000000 : Int64))))] [(.int (1 : Int32))]))
    refine own_st (fun _ k => XS.goto X17.here hx rfl (pc0 := 97) (pc' := 101) rfl (hb hby at_97) (by decide) (by decide) k) ?_
    show own_Go _ _ _ _ (T17.setTop (mkF m 101 #[.val (.long u0), .second, .val (.long u1), .second, .val (.ref b7), .val (.long (u1 >>> ((1 : Int32) &&& 0x3f).toInt64)), .second, .val (.int (1 : Int32)), .val (.int (own_to (u0 + (u1 >>> ((1 : Int32) &&& 0x3f).toInt64)) (u0 + (32000000000 : Int64)))), .val (.int (own_to (u0 + (32000000000 : Int64)) (u0 + (32000000000 : Int64)))), .val (.int (own_to (u0 + (31999999999 : Int64)) (u0 + (32000000000 : Int64)))), .val (.int (own_to u0 (u0 + (32000000000 : Int64))))] [(.int (1 : Int32))]))
    obtain ⟨fs, hr, hrun, hended, hW, hsame⟩ := X17.leave (v := some (.int (1 : Int32))) (fun h => by rw [Bd.returns] at h; cases h)
    refine own_out (retN X17 hx (t := .boolean) Bd.returns (by simp) (hb hby at_101) hr) ⟨hrun, hended, _, _, rfl, ?_, ⟨_, rfl⟩, hW, hsame.mono (by decide) (by decide)⟩
    show Q0 Z u0 u1 h0 n0 _ T17.heap _
    exact ⟨rfl, N17⟩
set_option maxRecDepth 65536 in
set_option maxHeartbeats 40000000 in
theorem comes_1 {Post : Tables → Env → Array Value → State → Outcome → State → Prop} (hpost : ∀ tb e args s v u, (limb_1_1.after args s (.returned v) u = true ∧ limb_1_2.after args s (.returned v) u = true ∧ True) → FrameEnd s (.returned v) u (Jvm.fieldLocs frame_1_writes args s ++ Jvm.arrayLocs frame_1_arrays args s ++ Jvm.staticLocs frame_1_statics s) 16 128 → Post tb e args s (.returned v) u) :
    ArmFor flags0 classFile x code maxLocals ret World_1 tables_1 room_1 Calls_1 rest_1 Pre_1 Post := by
  intro l hfl _ _ p e ha hc hk s m args below hf hA hF happ hP
  obtain ⟨hcalls, hrest, hpre⟩ := hP
  obtain ⟨-, -, -, hnamed, -, -, -, hat⟩ := (Spec.applies_iff hf).mp happ
  obtain ⟨hg, hn⟩ := and_e (Cond.before_iff.mp (show (Jvm.Cond.and given_1 narrow_1).before args s = true from hpre))
  obtain ⟨h1, h2⟩ := and_e hg
  obtain ⟨ha0, h2⟩ := and_e h2
  have ha1 := h2
  obtain ⟨w0, w1, rfl⟩ : ∃ w0 w1 : Value, args = #[w0, w1] := by
    have hs : args.size = 2 := by simpa [Cond.value, given_1] using h1
    obtain ⟨L⟩ := args
    match L, hs with
    | [w0, w1], _ => exact ⟨w0, w1, rfl⟩
  have hw := fun d (hd : d ∈ tables_1) => atoms_spec (ws := Jvm.Cond.code x code maxLocals ret :: tables_1) hat d (List.mem_cons_of_mem _ hd)
  obtain ⟨i0, ei0⟩ := isL_v ha0
  obtain rfl : w0 = (.long i0) := Option.some.inj ei0
  obtain ⟨i1, ei1⟩ := isL_v ha1
  obtain rfl : w1 = (.long i1) := Option.some.inj ei1
  obtain ⟨n, o, h1, h2, h3, _, L, rfl, ⟨rfl, N⟩, hq⟩ := rm0 l s _ hw tables_1 i0 i1 s.heap s.heap.size (Nat.le_refl _)  p e ha hc hk s m _ below hf ((Spec.applies_iff_loose hf).mp happ).1 ⟨rfl, State.Warmed39.refl s, rfl⟩ trivial
  refine ⟨n, _, h1, h2, h3, hpost _ _ _ _ _ _ ⟨Cond.after_iff.mpr rfl, Cond.after_iff.mpr (eq_i res_at (Term.int_eval (1)) rfl), trivial⟩ ⟨hq.1, hq.2.1, (hq.2.2.sift fun y hy => Or.inr (N y hy)).mono (by decide) (by decide)⟩⟩
theorem main_1_1 : Claimed_1_1 := comes_1 fun _ _ _ _ _ _ h hF => ⟨h.1, hF⟩
theorem main_1_2 : Claimed_1_2 := comes_1 fun _ _ _ _ _ _ h hF => ⟨h.2.1, hF⟩
end Jvm.Pilot.@@N@@
namespace Jvm.Pilot.@@N@@
open Jvm Jvm.ClassFile Sem Op Lib Jvm.Free Jvm.Stand Jvm.Pilot.@@N@@.Jvm.D
/-! MADE BY PROGRAM (witnessworld.py) out of the Statement's table words and the real class files: 9 classes; the members and pool entries that the words name. The judged class is class 1, her method 1. -/
namespace start1
open Jvm.ClassFile
def u (s : String) : CpInfo := .utf8 (stringToUtf16 s)
/-- a pool by its gaps: so many unusable entries, then the entry; so many at the end -/
def gap : Nat → List CpInfo → List CpInfo
  | 0, r => r
  | n + 1, r => .unusable :: gap n r
def poolList (es : List (Nat × CpInfo)) (last : Nat) : List CpInfo := es.foldr (fun e r => gap e.1 (e.2 :: r)) (gap last [])
def pool (es : List (Nat × CpInfo)) (last : Nat) : Array CpInfo := ⟨poolList es last⟩
def fileOf (pool : Array CpInfo) (this : Nat) (attrs : Array Attribute := #[]) (ms : Array MethodInfo := #[]) (fl : Nat := 33) (sup : Nat := 0) (ifs : Array Nat := #[]) (fds : Array FieldInfo := #[]) : ClassFile where
  minorVersion := 0
  majorVersion := 65
  constantPool := pool
  accessFlags := fl
  thisClass := this
  superClass := sup
  interfaces := ifs
  fields := fds
  methods := ms
  attributes := attrs
def plain (name : String) (sup : Option ClassId) : Class where
  name := name
  kind := .ordinary
  loader := none
  accessFlags := 33
  super := sup
  interfaces := #[]
  cf := none
  fields := #[]
  methods := #[]
  instanceTypes := #[]
  staticTypes := #[]
  resolved := #[]
  callSites := []
  init := .initialized
  statics := none
  mirror := none

def pool0 : Array CpInfo := pool [(5, u "<init>"), (0, u "()V"), (1, .class_ 10), (1, u "java/lang/Object")] 113

def k0c0 : Code := { maxStack := 0, maxLocals := 1, code := object_method_1_code, exceptionTable := #[], attributes := #[] }
def k0m0 : Method := { name := "<init>", desc := "()V", sig := { parameters := [], returnType := none }, accessFlags := 1, code := some k0c0 }
/-- java/lang/Object -/
def k0 : Class := { plain "java/lang/Object" none with
  accessFlags := 33
  interfaces := #[]
  cf := some (fileOf pool0 8 #[] #[{ accessFlags := 1, nameIndex := 5, descriptorIndex := 6, attributes := #[] }] 33 0 #[] #[])
  fields := #[]
  methods := #[k0m0]
  instanceTypes := #[]
  staticTypes := #[]
  resolved := Array.replicate 124 none
  statics := none }

def pool1 : Array CpInfo := pool [(2, .class_ 4), (1, u "java/lang/Object"), (0, u "<init>"), (0, u "()V"), (0, .class_ 8), (0, u "com/example/troskel/troskel/service/RetransmissionTimer"), (0, .methodref 7 10), (0, .nameAndType 5 11), (0, u "(J)V"), (0, .long 32000000000), (1, .methodref 7 15), (0, .nameAndType 16 17), (0, u "timedOut"), (0, u "(J)Z"), (0, .long 31999999999), (1, .class_ 21), (0, u "com/example/troskel/troskel/service/RetransmissionTimerTimedOutPinLaw"), (2, u "law"), (0, u "(JJ)Z")] 3

def k1m0 : Method := { name := "<init>", desc := "()V", sig := { parameters := [], returnType := none }, accessFlags := 1, code := none }
def k1c1 : Code := { maxStack := 5, maxLocals := 12, code := code, exceptionTable := #[], attributes := #[] }
def k1m1 : Method := { name := "law", desc := "(JJ)Z", sig := { parameters := [.long, .long], returnType := some .boolean }, accessFlags := 9, code := some k1c1 }
/-- com/example/troskel/troskel/service/RetransmissionTimerTimedOutPinLaw -/
def k1 : Class := { plain "com/example/troskel/troskel/service/RetransmissionTimerTimedOutPinLaw" (some 0) with
  accessFlags := 49
  interfaces := #[]
  cf := some (fileOf pool1 20 #[] #[{ accessFlags := 1, nameIndex := 5, descriptorIndex := 6, attributes := #[] }, { accessFlags := 9, nameIndex := 24, descriptorIndex := 25, attributes := #[] }] 49 2 #[] #[])
  fields := #[]
  methods := #[k1m0, k1m1]
  instanceTypes := #[]
  staticTypes := #[]
  resolved := Array.replicate 29 none
  statics := none }

def pool2 : Array CpInfo := pool [(1, .class_ 2), (0, u "com/example/troskel/troskel/service/RetransmissionTimer"), (0, .methodref 4 5), (0, .class_ 6), (0, .nameAndType 7 8), (0, u "java/lang/Object"), (0, u "<init>"), (0, u "()V"), (0, .long 500000000), (1, .fieldref 1 12), (0, .nameAndType 13 14), (0, u "interval"), (0, u "J"), (0, .long 32000000000), (1, .fieldref 1 18), (0, .nameAndType 19 14), (0, u "timeoutAt"), (0, .fieldref 1 21), (0, .nameAndType 22 14), (0, u "next"), (2, u "timedOut"), (0, u "(J)Z"), (2, u "proceeding"), (0, u "Z"), (10, u "T1_NANOS"), (1, u "T2_NANOS"), (0, u "TIMEOUT_NANOS"), (0, u "(J)V")] 9

def k2c0 : Code := { maxStack := 5, maxLocals := 3, code := prog_49_method_1_code, exceptionTable := #[], attributes := #[] }
def k2m0 : Method := { name := "<init>", desc := "(J)V", sig := { parameters := [.long], returnType := none }, accessFlags := 1, code := some k2c0 }
def k2c1 : Code := { maxStack := 4, maxLocals := 3, code := prog_49_method_3_code, exceptionTable := #[], attributes := #[] }
def k2m1 : Method := { name := "timedOut", desc := "(J)Z", sig := { parameters := [.long], returnType := some .boolean }, accessFlags := 1, code := some k2c1 }
/-- com/example/troskel/troskel/service/RetransmissionTimer -/
def k2 : Class := { plain "com/example/troskel/troskel/service/RetransmissionTimer" (some 0) with
  accessFlags := 33
  interfaces := #[]
  cf := some (fileOf pool2 1 #[] #[{ accessFlags := 1, nameIndex := 7, descriptorIndex := 45, attributes := #[] }, { accessFlags := 1, nameIndex := 25, descriptorIndex := 26, attributes := #[] }] 33 4 #[] #[{ accessFlags := 25, nameIndex := 41, descriptorIndex := 14, attributes := #[] }, { accessFlags := 25, nameIndex := 43, descriptorIndex := 14, attributes := #[] }, { accessFlags := 25, nameIndex := 44, descriptorIndex := 14, attributes := #[] }, { accessFlags := 18, nameIndex := 19, descriptorIndex := 14, attributes := #[] }, { accessFlags := 2, nameIndex := 13, descriptorIndex := 14, attributes := #[] }, { accessFlags := 2, nameIndex := 22, descriptorIndex := 14, attributes := #[] }, { accessFlags := 2, nameIndex := 29, descriptorIndex := 30, attributes := #[] }])
  fields := #[{ name := "T1_NANOS", type := .long, accessFlags := 25, slot := 0, constantValue := 0 }, { name := "T2_NANOS", type := .long, accessFlags := 25, slot := 1, constantValue := 0 }, { name := "TIMEOUT_NANOS", type := .long, accessFlags := 25, slot := 2, constantValue := 0 }, { name := "timeoutAt", type := .long, accessFlags := 18, slot := 0, constantValue := 0 }, { name := "interval", type := .long, accessFlags := 2, slot := 1, constantValue := 0 }, { name := "next", type := .long, accessFlags := 2, slot := 2, constantValue := 0 }, { name := "proceeding", type := .boolean, accessFlags := 2, slot := 3, constantValue := 0 }]
  methods := #[k2m0, k2m1]
  instanceTypes := #[.long, .long, .long, .boolean]
  staticTypes := #[.long, .long, .long]
  resolved := Array.replicate 55 none
  statics := none }

def pool3 : Array CpInfo := pool [(1, u "java/lang/Cloneable"), (0, .class_ 1), (0, u "java/lang/Object"), (0, .class_ 3)] 3

/-- java/lang/Cloneable -/
def k3 : Class := { plain "java/lang/Cloneable" (some 0) with
  accessFlags := 1537
  interfaces := #[]
  cf := some (fileOf pool3 2 #[] #[] 1537 4 #[] #[])
  fields := #[]
  methods := #[]
  instanceTypes := #[]
  staticTypes := #[]
  resolved := Array.replicate 8 none
  statics := none }

def pool4 : Array CpInfo := pool [(1, u "java/io/Serializable"), (0, .class_ 1), (0, u "java/lang/Object"), (0, .class_ 3)] 3

/-- java/io/Serializable -/
def k4 : Class := { plain "java/io/Serializable" (some 0) with
  accessFlags := 1537
  interfaces := #[]
  cf := some (fileOf pool4 2 #[] #[] 1537 4 #[] #[])
  fields := #[]
  methods := #[]
  instanceTypes := #[]
  staticTypes := #[]
  resolved := Array.replicate 8 none
  statics := none }

/-- the primitive byte -/
def k5 : Class := { plain "byte" none with kind := .primitive 'B', accessFlags := 0x411 }
/-- [B -/
def k6 : Class := { plain "[B" (some 0) with kind := .array 5 .byte, interfaces := #[3, 4], accessFlags := 1041 }

/-- the primitive int -/
def k7 : Class := { plain "int" none with kind := .primitive 'I', accessFlags := 0x411 }
/-- [I -/
def k8 : Class := { plain "[I" (some 0) with kind := .array 7 .int, interfaces := #[3, 4], accessFlags := 1041 }

def heap : Heap := #[]
def classes : Array Class := #[k0, k1, k2, k3, k4, k5, k6, k7, k8]
def interned : List (Array UInt16 × Addr) := []
def slotsUsed : Nat := 0
def theMethod : MethodId := ⟨1, 1⟩
def args0 : Array Value := #[.long 5, .long 7]
def aboutOver (below : List Frame) : State where
  vm := { classes := classes, interned := interned.toArray }
  heap := heap
  slotsUsed := slotsUsed
  threads := #[{ frames := .invoking theMethod args0 :: below }]
def below0 : List Frame := [.native { method := ⟨0, 0⟩, args := #[] }]
def about1 : State := aboutOver below0
def p0 : Program := .bare "" "" ""
def e0 : Env := launch0.env 0 0 0
theorem w_frames : about1.frames = Frame.invoking theMethod args0 :: below0 := rfl
set_option maxRecDepth 65536 in
theorem w_args : argsFit about1.vm theMethod args0 = true := by decide +kernel
set_option maxRecDepth 65536 in
theorem w_heap : heapFits about1 = true := by decide +kernel
set_option maxRecDepth 65536 in
theorem w_runnable : about1.curStatus? = some .runnable := by decide +kernel
set_option maxRecDepth 65536 in
theorem w_alone : about1.alone = true := by decide +kernel
set_option maxRecDepth 65536 in
theorem w_named : about1.methodNamed? x = some theMethod := by decide +kernel
set_option maxRecDepth 65536 in
theorem w_hears : about1.hears theMethod below0 = true := by decide +kernel
set_option maxRecDepth 65536 in
theorem w_ripe : about1.ripe theMethod args0 below0 = true := by decide +kernel
theorem w_running : about1.status = .running := rfl
set_option maxRecDepth 65536 in
theorem w_room : about1.hasRoom e0.platform room_1 = true :=
  launch0.hasRoom_least _ room_1 (by decide +kernel) (by decide +kernel) (by decide +kernel) (by decide +kernel) (by decide +kernel) (by decide +kernel)
theorem allAtoms_all (ts : List Jvm.Cond) (a : Array Jvm.Value) (st : Jvm.State) : (allAtoms ts).before a st = ts.all (fun c => c.before a st) := by
  induction ts with
  | nil => rfl
  | cons c t ih =>
    show (Jvm.Cond.and c (allAtoms t)).before a st = _
    rw [Jvm.Cond.before_and, ih, List.all_cons]
def words1 : List Jvm.Cond := Jvm.Cond.code x code maxLocals ret :: tables_1
/-- a 'code' word, met by the world's own term for the bytes: nothing is compared byte by byte -/
theorem code_word {y : MethodName} {bytes : ByteArray} {mx : Nat} {rt : Option FieldType} {a : Array Value} {s : State} {m : MethodId} {meth : Method} {c : Code} (h1 : s.methodNamed? y = some m) (h2 : s.vm.method? m = some meth) (h3 : meth.code = some c) (h4 : c.code = bytes)
    (h5 : (c.maxLocals == mx && c.exceptionTable.isEmpty && decide (c.maxStack ≤ mostOperands) && decide (meth.sig.returnType = rt) && !meth.locks && decide (parseMethodDescriptor y.desc = some meth.sig)) = true) : (Jvm.Cond.code y bytes mx rt).before a s = true := by
  simp only [Bool.and_eq_true, beq_iff_eq, Bool.not_eq_true', decide_eq_true_eq] at h5
  obtain ⟨⟨⟨⟨⟨g1, g2⟩, g3⟩, g4⟩, g5⟩, g6⟩ := h5
  simp [Cond.before, Cond.holds, Cond.value, h1, h2, h3, h4, g1, g2, g3, g4, g5, g6]
def isCode : Jvm.Cond → Bool
  | .code _ _ _ _ => true
  | _ => false
theorem all_split {L : List Jvm.Cond} {P : Jvm.Cond → Bool} (h1 : L.all (fun c => isCode c || P c) = true) (h2 : ∀ c ∈ L.filter isCode, P c = true) : L.all P = true := by
  refine List.all_eq_true.mpr fun c hc => ?_
  have h := List.all_eq_true.mp h1 c hc
  rcases Bool.eq_false_or_eq_true (isCode c) with hi | hi
  · exact h2 c (List.mem_filter.mpr ⟨hc, hi⟩)
  · simpa [hi] using h
set_option maxRecDepth 65536 in
theorem w_c0 : (Jvm.Cond.code x code maxLocals ret).before args0 about1 = true := code_word (m := ⟨1, 1⟩) (meth := k1m1) (c := k1c1) (by decide +kernel) rfl rfl rfl (by decide +kernel)
set_option maxRecDepth 65536 in
theorem w_c1 : (Jvm.Cond.code ({ cls := "com/example/troskel/troskel/service/RetransmissionTimer", name := "<init>", desc := "(J)V" } : Jvm.MethodName) prog_49_method_1_code (3 : Nat) (Option.none : Option Jvm.ClassFile.FieldType)).before args0 about1 = true := code_word (m := ⟨2, 0⟩) (meth := k2m0) (c := k2c0) (by decide +kernel) rfl rfl rfl (by decide +kernel)
set_option maxRecDepth 65536 in
theorem w_c2 : (Jvm.Cond.code ({ cls := "java/lang/Object", name := "<init>", desc := "()V" } : Jvm.MethodName) object_method_1_code (1 : Nat) (Option.none : Option Jvm.ClassFile.FieldType)).before args0 about1 = true := code_word (m := ⟨0, 0⟩) (meth := k0m0) (c := k0c0) (by decide +kernel) rfl rfl rfl (by decide +kernel)
set_option maxRecDepth 65536 in
theorem w_c3 : (Jvm.Cond.code ({ cls := "com/example/troskel/troskel/service/RetransmissionTimer", name := "timedOut", desc := "(J)Z" } : Jvm.MethodName) prog_49_method_3_code (3 : Nat) (Option.some Jvm.ClassFile.FieldType.boolean)).before args0 about1 = true := code_word (m := ⟨2, 1⟩) (meth := k2m1) (c := k2c1) (by decide +kernel) rfl rfl rfl (by decide +kernel)
def codes1 : List Jvm.Cond := [Jvm.Cond.code x code maxLocals ret, Jvm.Cond.code ({ cls := "com/example/troskel/troskel/service/RetransmissionTimer", name := "<init>", desc := "(J)V" } : Jvm.MethodName) prog_49_method_1_code (3 : Nat) (Option.none : Option Jvm.ClassFile.FieldType), Jvm.Cond.code ({ cls := "java/lang/Object", name := "<init>", desc := "()V" } : Jvm.MethodName) object_method_1_code (1 : Nat) (Option.none : Option Jvm.ClassFile.FieldType), Jvm.Cond.code ({ cls := "com/example/troskel/troskel/service/RetransmissionTimer", name := "timedOut", desc := "(J)Z" } : Jvm.MethodName) prog_49_method_3_code (3 : Nat) (Option.some Jvm.ClassFile.FieldType.boolean)]
set_option maxRecDepth 65536 in
theorem codes_eq : words1.filter isCode = codes1 := rfl
theorem w_codes : ∀ c ∈ words1.filter isCode, c.before args0 about1 = true := by
  rw [codes_eq]
  intro c hc
  simp only [codes1, List.mem_cons, List.not_mem_nil, or_false] at hc
  rcases hc with rfl | rfl | rfl | rfl
  · exact w_c0
  · exact w_c1
  · exact w_c2
  · exact w_c3
set_option maxRecDepth 65536 in
theorem w_t1 : (words1.take 24).all (fun c => isCode c || c.before args0 about1) = true := by decide +kernel
set_option maxRecDepth 65536 in
theorem w_t2 : (words1.drop 24).all (fun c => isCode c || c.before args0 about1) = true := by decide +kernel
theorem w_tables : (allAtoms (Jvm.Cond.code x code maxLocals ret :: tables_1)).before args0 about1 = true := by
  rw [allAtoms_all]
  show words1.all (fun c => c.before args0 about1) = true
  refine all_split ?_ w_codes
  rw [← List.take_append_drop 24 words1, List.all_append, w_t1, w_t2]
  rfl
set_option maxRecDepth 65536 in
theorem w_case : (Jvm.Cond.and given_1 narrow_1).before args0 about1 = true := by decide +kernel
theorem w_applies : (headSpec (Jvm.Cond.code x code maxLocals ret :: tables_1) room_1).applies x e0.platform about1 = true :=
  (Spec.applies_iff w_frames).mpr ⟨w_running, w_runnable, w_alone, w_named, w_hears, w_ripe, w_room, w_tables⟩
theorem atStart : AtStart classFile x code maxLocals ret World_1 tables_1 room_1 Calls_1 rest_1 Pre_1 launch0 p0 e0 about1 theMethod args0 below0 :=
  ⟨lists_1, trivial, launch0.admits_env _ _ _, launch0.least_env, fairChoices_fair.cas, fairChoices_fair.clock, w_frames, w_args, w_heap, w_applies, trivial, trivial, w_case⟩
end start1
theorem witness_1 : WitnessClaimed_1 := ⟨start1.p0, start1.e0, start1.about1, start1.theMethod, start1.args0, start1.below0, start1.atStart⟩
end Jvm.Pilot.@@N@@
