import JvmDerived
import JvmDerived.Pilot.@@N@@Statement
import JvmDerived.Pilot.@@N@@Code
set_option linter.unusedVariables false
set_option linter.unusedSimpArgs false
namespace Jvm.Pilot.@@N@@
open Jvm Jvm.ClassFile Sem Op Lib Jvm.Free Jvm.Stand Jvm.LawKit Jvm.RoadKit Bundle Jvm.Pilot.@@N@@.Jvm.D
def own_Go (tb : Tables) (e : Env) (below : List Frame) (P : State → Outcome → Prop) (A : State) : Prop := ∃ s₂ o, Steps tb e below A s₂ ∧ P s₂ o
theorem own_in {tb : Tables} {e : Env} {below : List Frame} {P : State → Outcome → Prop} {A : State} (h : own_Go tb e below P A) : ∃ s₂ o, Steps tb e below A s₂ ∧ P s₂ o := h
theorem own_st {tb : Tables} {e : Env} {below : List Frame} {P : State → Outcome → Prop} {A B : State} (h : ∀ t, Steps tb e below B t → Steps tb e below A t) (k : own_Go tb e below P B) : own_Go tb e below P A := by
  obtain ⟨s₂, o, h1, h2⟩ := k
  exact ⟨s₂, o, h _ h1, h2⟩
theorem own_tr {tb : Tables} {e : Env} {below : List Frame} {P : State → Outcome → Prop} {A B : State} (h : Steps tb e below A B) (k : own_Go tb e below P B) : own_Go tb e below P A := by
  obtain ⟨s₂, o, h1, h2⟩ := k
  exact ⟨s₂, o, h.trans h1, h2⟩
theorem own_out {tb : Tables} {e : Env} {below : List Frame} {P : State → Outcome → Prop} {A B : State} {o : Outcome} (h : Steps tb e below A B) (k : P B o) : own_Go tb e below P A := ⟨B, o, h, k⟩
theorem own_join {ι : Type} {tb : Tables} {e : Env} {below : List Frame} {P : State → Outcome → Prop} {A : State} (B : ι → State) (K : ι → Prop) (hJ : ∀ b, K b → own_Go tb e below P (B b)) (h : (∀ b, K b → own_Go tb e below P (B b)) → own_Go tb e below P A) : own_Go tb e below P A := h hJ
section Own
variable {p : Program} {l : Launch} {e : Env} {R : Room} {s : State} {m : MethodId} {args : Array Value} {below : List Frame} {meth : Method} {c : Code} {T : State} {locs : List Loc} {cells slots : Nat}
theorem own_retI (X : Stand p l e R s m args below meth c T locs cells slots) (hx : p.tables.exec = Jvm.exec) {pc : Nat} {Ls : Array Slot} {z : Int32} {rest : List Value} (hret : meth.sig.returnType = some .int) (hd : decode c.code pc = .ok (.ireturn, 1)) {fs : List Frame}
    (hl : ∀ (f : JFrame) (acts : List Action), f.method = m → f.locked = none → f.entered = [] → (doReturn e (T.setTop f) acts (some (.int z))).1 = T.setFrames fs) : Steps p.tables e below (T.setTop (mkF m pc Ls (.int z :: rest))) (T.setFrames fs) := by
  have hm' : T.vm.method? m = some meth := X.method'
  have hn : narrow .int (.int z) = .int z := rfl
  show Steps p.tables e below (T.setTop { method := m, pc := pc, locals := Ls, stack := _ :: rest, locked := none }) _
  jvm_step X.here [X.here.top, hx, hd, hm', hret, hn]
  first | (intro acts; rw [hl _ acts rfl rfl rfl]) | rw [hl _ _ rfl rfl rfl]
  exact Steps.refl _
end Own
theorem own_narB (x : Int32) : x.toInt8.toInt32.toInt8.toInt32 = x.toInt8.toInt32 := by simp
theorem own_m4 (u : Int32) : (u &&& (3 : Int32)) = (0 : Int32) ∨ (u &&& (3 : Int32)) = (1 : Int32) ∨ (u &&& (3 : Int32)) = (2 : Int32) ∨ (u &&& (3 : Int32)) = (3 : Int32) := by
  have m := c_mask u 3 2 (by decide) (by decide)
  simp only [← Int32.toInt_inj, Int32.reduceToInt]
  omega
theorem d1_0 : decode prog_7_method_3_code 0 = .ok (.aload_n 0, 1) := by decide +kernel
theorem d1_1 : decode prog_7_method_3_code 1 = .ok (.arraylength, 1) := by decide +kernel
theorem d1_2 : decode prog_7_method_3_code 2 = .ok (.iconst 3, 1) := by decide +kernel
theorem d1_3 : decode prog_7_method_3_code 3 = .ok (.iadd, 1) := by decide +kernel
theorem d1_4 : decode prog_7_method_3_code 4 = .ok (.newarray .byte, 2) := by decide +kernel
theorem d1_6 : decode prog_7_method_3_code 6 = .ok (.astore_n 1, 1) := by decide +kernel
theorem d1_7 : decode prog_7_method_3_code 7 = .ok (.aload_n 1, 1) := by decide +kernel
theorem d1_8 : decode prog_7_method_3_code 8 = .ok (.iconst 0, 1) := by decide +kernel
theorem d1_9 : decode prog_7_method_3_code 9 = .ok (.bipush 11, 2) := by decide +kernel
theorem d1_11 : decode prog_7_method_3_code 11 = .ok (.bastore, 1) := by decide +kernel
theorem d1_12 : decode prog_7_method_3_code 12 = .ok (.aload_n 0, 1) := by decide +kernel
theorem d1_13 : decode prog_7_method_3_code 13 = .ok (.iconst 0, 1) := by decide +kernel
theorem d1_14 : decode prog_7_method_3_code 14 = .ok (.aload_n 1, 1) := by decide +kernel
theorem d1_15 : decode prog_7_method_3_code 15 = .ok (.iconst 1, 1) := by decide +kernel
theorem d1_16 : decode prog_7_method_3_code 16 = .ok (.aload_n 0, 1) := by decide +kernel
theorem d1_17 : decode prog_7_method_3_code 17 = .ok (.arraylength, 1) := by decide +kernel
theorem d1_18 : decode prog_7_method_3_code 18 = .ok (.invokestatic 9, 3) := by decide +kernel
theorem d1_21 : decode prog_7_method_3_code 21 = .ok (.aload_n 1, 1) := by decide +kernel
theorem d1_22 : decode prog_7_method_3_code 22 = .ok (.aload_n 1, 1) := by decide +kernel
theorem d1_23 : decode prog_7_method_3_code 23 = .ok (.arraylength, 1) := by decide +kernel
theorem d1_24 : decode prog_7_method_3_code 24 = .ok (.iconst 2, 1) := by decide +kernel
theorem d1_25 : decode prog_7_method_3_code 25 = .ok (.isub, 1) := by decide +kernel
theorem d1_26 : decode prog_7_method_3_code 26 = .ok (.bipush 28, 2) := by decide +kernel
theorem d1_28 : decode prog_7_method_3_code 28 = .ok (.bastore, 1) := by decide +kernel
theorem d1_29 : decode prog_7_method_3_code 29 = .ok (.aload_n 1, 1) := by decide +kernel
theorem d1_30 : decode prog_7_method_3_code 30 = .ok (.aload_n 1, 1) := by decide +kernel
theorem d1_31 : decode prog_7_method_3_code 31 = .ok (.arraylength, 1) := by decide +kernel
theorem d1_32 : decode prog_7_method_3_code 32 = .ok (.iconst 1, 1) := by decide +kernel
theorem d1_33 : decode prog_7_method_3_code 33 = .ok (.isub, 1) := by decide +kernel
theorem d1_34 : decode prog_7_method_3_code 34 = .ok (.bipush 13, 2) := by decide +kernel
theorem d1_36 : decode prog_7_method_3_code 36 = .ok (.bastore, 1) := by decide +kernel
theorem d1_37 : decode prog_7_method_3_code 37 = .ok (.aload_n 1, 1) := by decide +kernel
theorem d1_38 : decode prog_7_method_3_code 38 = .ok (.areturn, 1) := by decide +kernel
theorem own_pd0 : parseMethodDescriptor "([B)[B" = some ⟨[(.array .byte)], some (.array .byte)⟩ := by decide +kernel
theorem own_pn0 : plainName "quillvax/mllp/Mllp" = true := by first | (simp [plainName, overriddenIn]; done) | decide +kernel
def Q1_0 (Z : State) (ar : Addr) (kk : ClassId)  (h0 : Heap) (n0 : Nat) (v : Option Value) (h : Heap) (L : List Loc) : Prop := ∃ (b : Addr) (k : ClassId), v = some (.ref b) ∧ Fr n0 L ∧ Keep h0 h [] ∧ h0.size ≤ b ∧ Arv Z h b k .byte (3 : Int32) [.int (11 : Int32), .int (28 : Int32), .int (13 : Int32)] (.int (0 : Int32))
theorem ef_1_0 (m : MethodId) (x0 : Addr) : entryFrame m #[(.ref x0)] 2 = mkF m 0 #[.val (.ref x0), .unset] [] := by first | (simp [entryFrame, mkF, argsToLocals, Value.category]; done) | rfl
set_option maxRecDepth 65536 in
set_option maxHeartbeats 40000000 in
theorem rm1_0 (l : Launch) (Z : State) (a0 : Array Value) (hw : ∀ d ∈ tables_1, d.before a0 Z = true) (ws : List Jvm.Cond) (ar : Addr) (kk : ClassId)  (h0 : Heap) (n0 : Nat) (Z0 : n0 ≤ h0.size) (V_ar : Arv Z h0 ar kk .byte (0 : Int32) [] (.int (0 : Int32))) :
    MetFree l (⟨"quillvax/mllp/Mllp", "frame", "([B)[B"⟩ : MethodName) (head1 (Jvm.Cond.code (⟨"quillvax/mllp/Mllp", "frame", "([B)[B"⟩ : MethodName) prog_7_method_3_code 2 (some (.array .byte)) :: ws) ({ frames := 1, cells := 1, slots := 6, locals := 40 } : Room)) (fun a U => a = #[(.ref ar)] ∧ Z.Warmed39 U.vm ∧ U.heap = h0) (fun _ _ _ _ _ => True) (fun _ U o U' => ∃ v L, o = .returned v ∧ Q1_0 Z ar kk h0 n0 v U'.heap L ∧ FrameEnd U o U' L ({ frames := 1, cells := 1, slots := 6, locals := 40 } : Room).cells ({ frames := 1, cells := 1, slots := 6, locals := 40 } : Room).slots) := by
  refine MetFree.of_bodySF (plainFor_of_name own_pn0) hisR ?_
  intro p e s m args below meth c s₁ Bd hml0 hP hK
  obtain ⟨rfl, hZ, hh⟩ := hP
  have hx := Bd.exec
  have hby := Bd.bytes
  have hml : c.maxLocals = 2 := hml0
  have hown : s.vm.findClass "quillvax/mllp/Mllp" = some m.cls := findClass_of_methodNamed Bd.named
  have hnm := (name_of_methodNamed Bd.named Bd.method).1
  have X0 : Stand p l e ({ frames := 1, cells := 1, slots := 6, locals := 40 } : Room) s m #[(.ref ar)] below meth c s₁ [] 0 0 := Stand.of_body Bd
  have e0 : s₁.heap = h0 := by rw [← hh, Bd.state]; rfl
  have N0 := Fr.nil n0
  refine own_in ?_
  refine own_st (fun _ k => castTop (ef_1_0 m ar) k) ?_
  have K0 : Keep h0 h0 [] := Keep.refl h0 []
  show own_Go _ _ _ _ (s₁.setTop (mkF m 0 #[.val (.ref ar), .unset] []))
  refine own_st (fun _ k => XS.aloadN X0.here hx rfl (hb hby d1_0) rfl rfl k) ?_
  show own_Go _ _ _ _ (s₁.setTop (mkF m 1 #[.val (.ref ar), .unset] [(.ref ar)]))
  obtain ⟨cl1, Ar1, -, Sz1, Nn1, -, -⟩ := id V_ar
  refine own_st (X0.arraylength hx (by rw [e0]; exact Ar1.1) (State.isArrayOf_alike hZ.alike Ar1.2.1) (g := (mkF m 1 #[.val (.ref ar), .unset] [(.ref ar)])) rfl rfl (hb hby d1_1)) ?_
  rw [len_of Sz1 Nn1]
  show own_Go _ _ _ _ (s₁.setTop (mkF m 2 #[.val (.ref ar), .unset] [(.int (0 : Int32))]))
  refine own_st (fun _ k => XS.iconst X0.here hx rfl (hb hby d1_2) k) ?_
  show own_Go _ _ _ _ (s₁.setTop (mkF m 3 #[.val (.ref ar), .unset] [(.int (3 : Int32)), (.int (0 : Int32))]))
  refine own_st (fun _ k => XS.iadd X0.here hx rfl (hb hby d1_3) rfl k) ?_
  show own_Go _ _ _ _ (s₁.setTop (mkF m 4 #[.val (.ref ar), .unset] [(.int (3 : Int32))]))
  obtain ⟨T2, h2, k2, X2, e2, E2, A2, st2⟩ := newP X0 hx hZ (hw _ (List.mem_of_getElem? (i := 0) rfl)) e0 (g := (mkF m 4 #[.val (.ref ar), .unset] [(.int (3 : Int32))])) rfl (hb hby d1_4) rfl (by decide : ¬ ((3 : Int32) < (0 : Int32))) (cap := 3) (by decide : ((3 : Int32)).toNatClampNeg ≤ 3) (by decide) (by decide) (by decide)
  obtain ⟨b2, g2⟩ : ∃ z, z = h0.size := ⟨_, rfl⟩
  rw [← g2] at A2 st2
  refine own_st st2 ?_
  have near_b2 : ar ≠ b2 := Nat.ne_of_lt (Nat.lt_of_lt_of_le V_ar.lt (Nat.le_of_eq g2.symm))
  have x2_V_ar := V_ar.ext E2
  have Z2 : n0 ≤ h2.size := Nat.le_trans Z0 E2.1
  have gnb2 : n0 ≤ b2 := Nat.le_trans Z0 (Nat.le_of_eq g2.symm)
  have gkb2 : h0.size ≤ b2 := Nat.le_trans K0.1 (Nat.le_of_eq g2.symm)
  have K2 : Keep h0 h2 [] := K0.ext E2
  have V2 : Arv Z h2 b2 k2 .byte (3 : Int32) [(.int (0 : Int32)), (.int (0 : Int32)), (.int (0 : Int32))] (.int (0 : Int32)) := (Arv.new A2 (by decide : ¬ ((3 : Int32) < (0 : Int32)))).pad (pad_rep [] (.int (0 : Int32)) 3)
  show own_Go _ _ _ _ (T2.setTop (mkF m 6 #[.val (.ref ar), .unset] [(.ref b2)]))
  refine own_st (fun _ k => XS.astoreN X2.here hx rfl (hb hby d1_6) rfl rfl (l' := #[.val (.ref ar), .val (.ref b2)]) rfl k) ?_
  show own_Go _ _ _ _ (T2.setTop (mkF m 7 #[.val (.ref ar), .val (.ref b2)] []))
  refine own_st (fun _ k => XS.aloadN X2.here hx rfl (hb hby d1_7) rfl rfl k) ?_
  show own_Go _ _ _ _ (T2.setTop (mkF m 8 #[.val (.ref ar), .val (.ref b2)] [(.ref b2)]))
  refine own_st (fun _ k => XS.iconst X2.here hx rfl (hb hby d1_8) k) ?_
  show own_Go _ _ _ _ (T2.setTop (mkF m 9 #[.val (.ref ar), .val (.ref b2)] [(.int (0 : Int32)), (.ref b2)]))
  refine own_st (fun _ k => XS.bipush X2.here hx rfl (hb hby d1_9) k) ?_
  show own_Go _ _ _ _ (T2.setTop (mkF m 11 #[.val (.ref ar), .val (.ref b2)] [(.int (11 : Int32)), (.int (0 : Int32)), (.ref b2)]))
  obtain ⟨cl3, Ar3, Kd3, Sz3, Nn3, Hs3, Gs3⟩ := id V2
  obtain ⟨T3, h3, X3, e3, W3, st3⟩ := stB X2 hx hZ e2 Ar3 (j := (0 : Int32)) (inb_of Sz3 ⟨(by decide : ¬ ((0 : Int32) < (0 : Int32))), (by decide : (0 : Int32) < (3 : Int32))⟩) (g := (mkF m 11 #[.val (.ref ar), .val (.ref b2)] [(.int (11 : Int32)), (.int (0 : Int32)), (.ref b2)])) rfl rfl (hb hby d1_11)
  refine own_st st3 ?_
  have V3 := Arv.set Ar3 Kd3 Sz3 Nn3 Hs3 Gs3 (fits_nar_byte _) W3 0 rfl (Nat.le_of_ble_eq_true rfl)
  have V3' : Arv Z h3 b2 k2 .byte (3 : Int32) [(.int (11 : Int32)), (.int (0 : Int32)), (.int (0 : Int32))] (.int (0 : Int32)) := V3
  have y3_V_ar := x2_V_ar.other W3 near_b2
  have Z3 : n0 ≤ h3.size := Nat.le_trans Z2 (Nat.le_of_eq W3.size.symm)
  have N3 := Fr.snoc X3 N0 gnb2
  have K3 : Keep h0 h3 [] := K2.wr W3 (Or.inr gkb2)
  show own_Go _ _ _ _ (T3.setTop (mkF m 12 #[.val (.ref ar), .val (.ref b2)] []))
  refine own_st (fun _ k => XS.aloadN X3.here hx rfl (hb hby d1_12) rfl rfl k) ?_
  show own_Go _ _ _ _ (T3.setTop (mkF m 13 #[.val (.ref ar), .val (.ref b2)] [(.ref ar)]))
  refine own_st (fun _ k => XS.iconst X3.here hx rfl (hb hby d1_13) k) ?_
  show own_Go _ _ _ _ (T3.setTop (mkF m 14 #[.val (.ref ar), .val (.ref b2)] [(.int (0 : Int32)), (.ref ar)]))
  refine own_st (fun _ k => XS.aloadN X3.here hx rfl (hb hby d1_14) rfl rfl k) ?_
  show own_Go _ _ _ _ (T3.setTop (mkF m 15 #[.val (.ref ar), .val (.ref b2)] [(.ref b2), (.int (0 : Int32)), (.ref ar)]))
  refine own_st (fun _ k => XS.iconst X3.here hx rfl (hb hby d1_15) k) ?_
  show own_Go _ _ _ _ (T3.setTop (mkF m 16 #[.val (.ref ar), .val (.ref b2)] [(.int (1 : Int32)), (.ref b2), (.int (0 : Int32)), (.ref ar)]))
  refine own_st (fun _ k => XS.aloadN X3.here hx rfl (hb hby d1_16) rfl rfl k) ?_
  show own_Go _ _ _ _ (T3.setTop (mkF m 17 #[.val (.ref ar), .val (.ref b2)] [(.ref ar), (.int (1 : Int32)), (.ref b2), (.int (0 : Int32)), (.ref ar)]))
  obtain ⟨cl4, Ar4, -, Sz4, Nn4, -, -⟩ := id y3_V_ar
  refine own_st (X3.arraylength hx (by rw [e3]; exact Ar4.1) (State.isArrayOf_alike hZ.alike Ar4.2.1) (g := (mkF m 17 #[.val (.ref ar), .val (.ref b2)] [(.ref ar), (.int (1 : Int32)), (.ref b2), (.int (0 : Int32)), (.ref ar)])) rfl rfl (hb hby d1_17)) ?_
  rw [len_of Sz4 Nn4]
  show own_Go _ _ _ _ (T3.setTop (mkF m 18 #[.val (.ref ar), .val (.ref b2)] [(.int (0 : Int32)), (.int (1 : Int32)), (.ref b2), (.int (0 : Int32)), (.ref ar)]))
  obtain ⟨T5, h5, L5, X5, e5, N5, Kc5, Vc5, st5⟩ := cpA X3 hx hZ hown (hw _ (List.mem_of_getElem? (i := 5) rfl)) (hw _ (List.mem_of_getElem? (i := 8) rfl)) (hw _ (List.mem_of_getElem? (i := 6) rfl)) (hw _ (List.mem_of_getElem? (i := 7) rfl)) e3 y3_V_ar V3' (us := []) (Or.inl ⟨rfl, rfl⟩) (by decide : ¬ ((0 : Int32) < 0)) (by decide : ¬ ((1 : Int32) < 0)) (by decide : ¬ ((0 : Int32) < 0)) (by decide) (by decide) rfl (Nat.le_of_ble_eq_true rfl) N3 gnb2 (g := (mkF m 18 #[.val (.ref ar), .val (.ref b2)] [(.int (0 : Int32)), (.int (1 : Int32)), (.ref b2), (.int (0 : Int32)), (.ref ar)])) rfl (by rw [hml]; rfl) rfl (hb hby d1_18) (by decide) (W := 0) (by show 2 * 0 + _ ≤ _; exact Nat.le_of_eq rfl) (by decide)
  refine own_st st5 ?_
  have V5 : Arv Z h5 b2 k2 .byte (3 : Int32) [(.int (11 : Int32)), (.int (0 : Int32)), (.int (0 : Int32))] (.int (0 : Int32)) := Vc5
  have z5_V_ar := y3_V_ar.keep Kc5 (ninS near_b2 nin0)
  have Z5 : n0 ≤ h5.size := Nat.le_trans Z3 Kc5.1
  have Kk5 : Keep h0 h5 [] := K3.trans Kc5 (allS (Or.inr gkb2) all0)
  show own_Go _ _ _ _ (T5.setTop (mkF m 21 #[.val (.ref ar), .val (.ref b2)] []))
  refine own_st (fun _ k => XS.aloadN X5.here hx rfl (hb hby d1_21) rfl rfl k) ?_
  show own_Go _ _ _ _ (T5.setTop (mkF m 22 #[.val (.ref ar), .val (.ref b2)] [(.ref b2)]))
  refine own_st (fun _ k => XS.aloadN X5.here hx rfl (hb hby d1_22) rfl rfl k) ?_
  show own_Go _ _ _ _ (T5.setTop (mkF m 23 #[.val (.ref ar), .val (.ref b2)] [(.ref b2), (.ref b2)]))
  obtain ⟨cl6, Ar6, -, Sz6, Nn6, -, -⟩ := id V5
  refine own_st (X5.arraylength hx (by rw [e5]; exact Ar6.1) (State.isArrayOf_alike hZ.alike Ar6.2.1) (g := (mkF m 23 #[.val (.ref ar), .val (.ref b2)] [(.ref b2), (.ref b2)])) rfl rfl (hb hby d1_23)) ?_
  rw [len_of Sz6 Nn6]
  show own_Go _ _ _ _ (T5.setTop (mkF m 24 #[.val (.ref ar), .val (.ref b2)] [(.int (3 : Int32)), (.ref b2)]))
  refine own_st (fun _ k => XS.iconst X5.here hx rfl (hb hby d1_24) k) ?_
  show own_Go _ _ _ _ (T5.setTop (mkF m 25 #[.val (.ref ar), .val (.ref b2)] [(.int (2 : Int32)), (.int (3 : Int32)), (.ref b2)]))
  refine own_st (fun _ k => XS.isub X5.here hx rfl (hb hby d1_25) rfl k) ?_
  show own_Go _ _ _ _ (T5.setTop (mkF m 26 #[.val (.ref ar), .val (.ref b2)] [(.int (1 : Int32)), (.ref b2)]))
  refine own_st (fun _ k => XS.bipush X5.here hx rfl (hb hby d1_26) k) ?_
  show own_Go _ _ _ _ (T5.setTop (mkF m 28 #[.val (.ref ar), .val (.ref b2)] [(.int (28 : Int32)), (.int (1 : Int32)), (.ref b2)]))
  obtain ⟨cl7, Ar7, Kd7, Sz7, Nn7, Hs7, Gs7⟩ := id V5
  obtain ⟨T7, h7, X7, e7, W7, st7⟩ := stB X5 hx hZ e5 Ar7 (j := (1 : Int32)) (inb_of Sz7 ⟨(by decide : ¬ ((1 : Int32) < (0 : Int32))), (by decide : (1 : Int32) < (3 : Int32))⟩) (g := (mkF m 28 #[.val (.ref ar), .val (.ref b2)] [(.int (28 : Int32)), (.int (1 : Int32)), (.ref b2)])) rfl rfl (hb hby d1_28)
  refine own_st st7 ?_
  have V7 := Arv.set Ar7 Kd7 Sz7 Nn7 Hs7 Gs7 (fits_nar_byte _) W7 1 rfl (Nat.le_of_ble_eq_true rfl)
  have V7' : Arv Z h7 b2 k2 .byte (3 : Int32) [(.int (11 : Int32)), (.int (28 : Int32)), (.int (0 : Int32))] (.int (0 : Int32)) := V7
  have y7_V_ar := z5_V_ar.other W7 near_b2
  have Z7 : n0 ≤ h7.size := Nat.le_trans Z5 (Nat.le_of_eq W7.size.symm)
  have N7 := Fr.snoc X7 N5 gnb2
  have K7 : Keep h0 h7 [] := Kk5.wr W7 (Or.inr gkb2)
  show own_Go _ _ _ _ (T7.setTop (mkF m 29 #[.val (.ref ar), .val (.ref b2)] []))
  refine own_st (fun _ k => XS.aloadN X7.here hx rfl (hb hby d1_29) rfl rfl k) ?_
  show own_Go _ _ _ _ (T7.setTop (mkF m 30 #[.val (.ref ar), .val (.ref b2)] [(.ref b2)]))
  refine own_st (fun _ k => XS.aloadN X7.here hx rfl (hb hby d1_30) rfl rfl k) ?_
  show own_Go _ _ _ _ (T7.setTop (mkF m 31 #[.val (.ref ar), .val (.ref b2)] [(.ref b2), (.ref b2)]))
  obtain ⟨cl8, Ar8, -, Sz8, Nn8, -, -⟩ := id V7'
  refine own_st (X7.arraylength hx (by rw [e7]; exact Ar8.1) (State.isArrayOf_alike hZ.alike Ar8.2.1) (g := (mkF m 31 #[.val (.ref ar), .val (.ref b2)] [(.ref b2), (.ref b2)])) rfl rfl (hb hby d1_31)) ?_
  rw [len_of Sz8 Nn8]
  show own_Go _ _ _ _ (T7.setTop (mkF m 32 #[.val (.ref ar), .val (.ref b2)] [(.int (3 : Int32)), (.ref b2)]))
  refine own_st (fun _ k => XS.iconst X7.here hx rfl (hb hby d1_32) k) ?_
  show own_Go _ _ _ _ (T7.setTop (mkF m 33 #[.val (.ref ar), .val (.ref b2)] [(.int (1 : Int32)), (.int (3 : Int32)), (.ref b2)]))
  refine own_st (fun _ k => XS.isub X7.here hx rfl (hb hby d1_33) rfl k) ?_
  show own_Go _ _ _ _ (T7.setTop (mkF m 34 #[.val (.ref ar), .val (.ref b2)] [(.int (2 : Int32)), (.ref b2)]))
  refine own_st (fun _ k => XS.bipush X7.here hx rfl (hb hby d1_34) k) ?_
  show own_Go _ _ _ _ (T7.setTop (mkF m 36 #[.val (.ref ar), .val (.ref b2)] [(.int (13 : Int32)), (.int (2 : Int32)), (.ref b2)]))
  obtain ⟨cl9, Ar9, Kd9, Sz9, Nn9, Hs9, Gs9⟩ := id V7'
  obtain ⟨T9, h9, X9, e9, W9, st9⟩ := stB X7 hx hZ e7 Ar9 (j := (2 : Int32)) (inb_of Sz9 ⟨(by decide : ¬ ((2 : Int32) < (0 : Int32))), (by decide : (2 : Int32) < (3 : Int32))⟩) (g := (mkF m 36 #[.val (.ref ar), .val (.ref b2)] [(.int (13 : Int32)), (.int (2 : Int32)), (.ref b2)])) rfl rfl (hb hby d1_36)
  refine own_st st9 ?_
  have V9 := Arv.set Ar9 Kd9 Sz9 Nn9 Hs9 Gs9 (fits_nar_byte _) W9 2 rfl (Nat.le_of_ble_eq_true rfl)
  have V9' : Arv Z h9 b2 k2 .byte (3 : Int32) [(.int (11 : Int32)), (.int (28 : Int32)), (.int (13 : Int32))] (.int (0 : Int32)) := V9
  have y9_V_ar := y7_V_ar.other W9 near_b2
  have Z9 : n0 ≤ h9.size := Nat.le_trans Z7 (Nat.le_of_eq W9.size.symm)
  have N9 := Fr.snoc X9 N7 gnb2
  have K9 : Keep h0 h9 [] := K7.wr W9 (Or.inr gkb2)
  show own_Go _ _ _ _ (T9.setTop (mkF m 37 #[.val (.ref ar), .val (.ref b2)] []))
  refine own_st (fun _ k => XS.aloadN X9.here hx rfl (hb hby d1_37) rfl rfl k) ?_
  show own_Go _ _ _ _ (T9.setTop (mkF m 38 #[.val (.ref ar), .val (.ref b2)] [(.ref b2)]))
  obtain ⟨fs, hr, hrun, hended, hW, hsame⟩ := X9.leave (v := some (.ref b2)) (fun h => by rw [Bd.returns] at h; cases h)
  refine own_out ((by
      jvm_step X9.here [X9.here.top, hx, (hb hby d1_38), X9.method', Bd.returns, Value.isRef, FieldType.isReference]
      first | (intro acts; rw [hr _ acts rfl rfl rfl]) | rw [hr _ _ rfl rfl rfl]
      exact Steps.refl _)) ⟨hrun, hended, _, _, rfl, ?_, ⟨_, rfl⟩, hW, hsame.mono (by decide) (by decide)⟩
  show Q1_0 Z ar kk h0 n0 _ T9.heap _
  rw [e9]
  exact ⟨b2, k2, rfl, N9, K9, gkb2, V9'⟩
def Q1_1 (Z : State) (ar : Addr) (kk : ClassId) (v0 : Int32) (h0 : Heap) (n0 : Nat) (v : Option Value) (h : Heap) (L : List Loc) : Prop := ∃ (b : Addr) (k : ClassId), v = some (.ref b) ∧ Fr n0 L ∧ Keep h0 h [] ∧ h0.size ≤ b ∧ Arv Z h b k .byte (4 : Int32) [.int (11 : Int32), .int v0, .int (28 : Int32), .int (13 : Int32)] (.int (0 : Int32))
theorem ef_1_1 (m : MethodId) (x0 : Addr) : entryFrame m #[(.ref x0)] 2 = mkF m 0 #[.val (.ref x0), .unset] [] := by first | (simp [entryFrame, mkF, argsToLocals, Value.category]; done) | rfl
set_option maxRecDepth 65536 in
set_option maxHeartbeats 40000000 in
theorem rm1_1 (l : Launch) (Z : State) (a0 : Array Value) (hw : ∀ d ∈ tables_1, d.before a0 Z = true) (ws : List Jvm.Cond) (ar : Addr) (kk : ClassId) (v0 : Int32) (h0 : Heap) (n0 : Nat) (Z0 : n0 ≤ h0.size) (V_ar : Arv Z h0 ar kk .byte (1 : Int32) [.int v0] (.int (0 : Int32))) :
    MetFree l (⟨"quillvax/mllp/Mllp", "frame", "([B)[B"⟩ : MethodName) (head1 (Jvm.Cond.code (⟨"quillvax/mllp/Mllp", "frame", "([B)[B"⟩ : MethodName) prog_7_method_3_code 2 (some (.array .byte)) :: ws) ({ frames := 1, cells := 1, slots := 6, locals := 40 } : Room)) (fun a U => a = #[(.ref ar)] ∧ Z.Warmed39 U.vm ∧ U.heap = h0) (fun _ _ _ _ _ => True) (fun _ U o U' => ∃ v L, o = .returned v ∧ Q1_1 Z ar kk v0 h0 n0 v U'.heap L ∧ FrameEnd U o U' L ({ frames := 1, cells := 1, slots := 6, locals := 40 } : Room).cells ({ frames := 1, cells := 1, slots := 6, locals := 40 } : Room).slots) := by
  refine MetFree.of_bodySF (plainFor_of_name own_pn0) hisR ?_
  intro p e s m args below meth c s₁ Bd hml0 hP hK
  obtain ⟨rfl, hZ, hh⟩ := hP
  have hx := Bd.exec
  have hby := Bd.bytes
  have hml : c.maxLocals = 2 := hml0
  have hown : s.vm.findClass "quillvax/mllp/Mllp" = some m.cls := findClass_of_methodNamed Bd.named
  have hnm := (name_of_methodNamed Bd.named Bd.method).1
  have X0 : Stand p l e ({ frames := 1, cells := 1, slots := 6, locals := 40 } : Room) s m #[(.ref ar)] below meth c s₁ [] 0 0 := Stand.of_body Bd
  have e0 : s₁.heap = h0 := by rw [← hh, Bd.state]; rfl
  have N0 := Fr.nil n0
  refine own_in ?_
  refine own_st (fun _ k => castTop (ef_1_1 m ar) k) ?_
  have K0 : Keep h0 h0 [] := Keep.refl h0 []
  show own_Go _ _ _ _ (s₁.setTop (mkF m 0 #[.val (.ref ar), .unset] []))
  refine own_st (fun _ k => XS.aloadN X0.here hx rfl (hb hby d1_0) rfl rfl k) ?_
  show own_Go _ _ _ _ (s₁.setTop (mkF m 1 #[.val (.ref ar), .unset] [(.ref ar)]))
  obtain ⟨cl10, Ar10, -, Sz10, Nn10, -, -⟩ := id V_ar
  refine own_st (X0.arraylength hx (by rw [e0]; exact Ar10.1) (State.isArrayOf_alike hZ.alike Ar10.2.1) (g := (mkF m 1 #[.val (.ref ar), .unset] [(.ref ar)])) rfl rfl (hb hby d1_1)) ?_
  rw [len_of Sz10 Nn10]
  show own_Go _ _ _ _ (s₁.setTop (mkF m 2 #[.val (.ref ar), .unset] [(.int (1 : Int32))]))
  refine own_st (fun _ k => XS.iconst X0.here hx rfl (hb hby d1_2) k) ?_
  show own_Go _ _ _ _ (s₁.setTop (mkF m 3 #[.val (.ref ar), .unset] [(.int (3 : Int32)), (.int (1 : Int32))]))
  refine own_st (fun _ k => XS.iadd X0.here hx rfl (hb hby d1_3) rfl k) ?_
  show own_Go _ _ _ _ (s₁.setTop (mkF m 4 #[.val (.ref ar), .unset] [(.int (4 : Int32))]))
  obtain ⟨T11, h11, k11, X11, e11, E11, A11, st11⟩ := newP X0 hx hZ (hw _ (List.mem_of_getElem? (i := 0) rfl)) e0 (g := (mkF m 4 #[.val (.ref ar), .unset] [(.int (4 : Int32))])) rfl (hb hby d1_4) rfl (by decide : ¬ ((4 : Int32) < (0 : Int32))) (cap := 4) (by decide : ((4 : Int32)).toNatClampNeg ≤ 4) (by decide) (by decide) (by decide)
  obtain ⟨b11, g11⟩ : ∃ z, z = h0.size := ⟨_, rfl⟩
  rw [← g11] at A11 st11
  refine own_st st11 ?_
  have near_b11 : ar ≠ b11 := Nat.ne_of_lt (Nat.lt_of_lt_of_le V_ar.lt (Nat.le_of_eq g11.symm))
  have x11_V_ar := V_ar.ext E11
  have Z11 : n0 ≤ h11.size := Nat.le_trans Z0 E11.1
  have gnb11 : n0 ≤ b11 := Nat.le_trans Z0 (Nat.le_of_eq g11.symm)
  have gkb11 : h0.size ≤ b11 := Nat.le_trans K0.1 (Nat.le_of_eq g11.symm)
  have K11 : Keep h0 h11 [] := K0.ext E11
  have V11 : Arv Z h11 b11 k11 .byte (4 : Int32) [(.int (0 : Int32)), (.int (0 : Int32)), (.int (0 : Int32)), (.int (0 : Int32))] (.int (0 : Int32)) := (Arv.new A11 (by decide : ¬ ((4 : Int32) < (0 : Int32)))).pad (pad_rep [] (.int (0 : Int32)) 4)
  show own_Go _ _ _ _ (T11.setTop (mkF m 6 #[.val (.ref ar), .unset] [(.ref b11)]))
  refine own_st (fun _ k => XS.astoreN X11.here hx rfl (hb hby d1_6) rfl rfl (l' := #[.val (.ref ar), .val (.ref b11)]) rfl k) ?_
  show own_Go _ _ _ _ (T11.setTop (mkF m 7 #[.val (.ref ar), .val (.ref b11)] []))
  refine own_st (fun _ k => XS.aloadN X11.here hx rfl (hb hby d1_7) rfl rfl k) ?_
  show own_Go _ _ _ _ (T11.setTop (mkF m 8 #[.val (.ref ar), .val (.ref b11)] [(.ref b11)]))
  refine own_st (fun _ k => XS.iconst X11.here hx rfl (hb hby d1_8) k) ?_
  show own_Go _ _ _ _ (T11.setTop (mkF m 9 #[.val (.ref ar), .val (.ref b11)] [(.int (0 : Int32)), (.ref b11)]))
  refine own_st (fun _ k => XS.bipush X11.here hx rfl (hb hby d1_9) k) ?_
  show own_Go _ _ _ _ (T11.setTop (mkF m 11 #[.val (.ref ar), .val (.ref b11)] [(.int (11 : Int32)), (.int (0 : Int32)), (.ref b11)]))
  obtain ⟨cl12, Ar12, Kd12, Sz12, Nn12, Hs12, Gs12⟩ := id V11
  obtain ⟨T12, h12, X12, e12, W12, st12⟩ := stB X11 hx hZ e11 Ar12 (j := (0 : Int32)) (inb_of Sz12 ⟨(by decide : ¬ ((0 : Int32) < (0 : Int32))), (by decide : (0 : Int32) < (4 : Int32))⟩) (g := (mkF m 11 #[.val (.ref ar), .val (.ref b11)] [(.int (11 : Int32)), (.int (0 : Int32)), (.ref b11)])) rfl rfl (hb hby d1_11)
  refine own_st st12 ?_
  have V12 := Arv.set Ar12 Kd12 Sz12 Nn12 Hs12 Gs12 (fits_nar_byte _) W12 0 rfl (Nat.le_of_ble_eq_true rfl)
  have V12' : Arv Z h12 b11 k11 .byte (4 : Int32) [(.int (11 : Int32)), (.int (0 : Int32)), (.int (0 : Int32)), (.int (0 : Int32))] (.int (0 : Int32)) := V12
  have y12_V_ar := x11_V_ar.other W12 near_b11
  have Z12 : n0 ≤ h12.size := Nat.le_trans Z11 (Nat.le_of_eq W12.size.symm)
  have N12 := Fr.snoc X12 N0 gnb11
  have K12 : Keep h0 h12 [] := K11.wr W12 (Or.inr gkb11)
  show own_Go _ _ _ _ (T12.setTop (mkF m 12 #[.val (.ref ar), .val (.ref b11)] []))
  refine own_st (fun _ k => XS.aloadN X12.here hx rfl (hb hby d1_12) rfl rfl k) ?_
  show own_Go _ _ _ _ (T12.setTop (mkF m 13 #[.val (.ref ar), .val (.ref b11)] [(.ref ar)]))
  refine own_st (fun _ k => XS.iconst X12.here hx rfl (hb hby d1_13) k) ?_
  show own_Go _ _ _ _ (T12.setTop (mkF m 14 #[.val (.ref ar), .val (.ref b11)] [(.int (0 : Int32)), (.ref ar)]))
  refine own_st (fun _ k => XS.aloadN X12.here hx rfl (hb hby d1_14) rfl rfl k) ?_
  show own_Go _ _ _ _ (T12.setTop (mkF m 15 #[.val (.ref ar), .val (.ref b11)] [(.ref b11), (.int (0 : Int32)), (.ref ar)]))
  refine own_st (fun _ k => XS.iconst X12.here hx rfl (hb hby d1_15) k) ?_
  show own_Go _ _ _ _ (T12.setTop (mkF m 16 #[.val (.ref ar), .val (.ref b11)] [(.int (1 : Int32)), (.ref b11), (.int (0 : Int32)), (.ref ar)]))
  refine own_st (fun _ k => XS.aloadN X12.here hx rfl (hb hby d1_16) rfl rfl k) ?_
  show own_Go _ _ _ _ (T12.setTop (mkF m 17 #[.val (.ref ar), .val (.ref b11)] [(.ref ar), (.int (1 : Int32)), (.ref b11), (.int (0 : Int32)), (.ref ar)]))
  obtain ⟨cl13, Ar13, -, Sz13, Nn13, -, -⟩ := id y12_V_ar
  refine own_st (X12.arraylength hx (by rw [e12]; exact Ar13.1) (State.isArrayOf_alike hZ.alike Ar13.2.1) (g := (mkF m 17 #[.val (.ref ar), .val (.ref b11)] [(.ref ar), (.int (1 : Int32)), (.ref b11), (.int (0 : Int32)), (.ref ar)])) rfl rfl (hb hby d1_17)) ?_
  rw [len_of Sz13 Nn13]
  show own_Go _ _ _ _ (T12.setTop (mkF m 18 #[.val (.ref ar), .val (.ref b11)] [(.int (1 : Int32)), (.int (1 : Int32)), (.ref b11), (.int (0 : Int32)), (.ref ar)]))
  obtain ⟨T14, h14, L14, X14, e14, N14, Kc14, Vc14, st14⟩ := cpA X12 hx hZ hown (hw _ (List.mem_of_getElem? (i := 5) rfl)) (hw _ (List.mem_of_getElem? (i := 8) rfl)) (hw _ (List.mem_of_getElem? (i := 6) rfl)) (hw _ (List.mem_of_getElem? (i := 7) rfl)) e12 y12_V_ar V12' (us := [(.int v0)]) (Or.inl ⟨rfl, rfl⟩) (by decide : ¬ ((0 : Int32) < 0)) (by decide : ¬ ((1 : Int32) < 0)) (by decide : ¬ ((1 : Int32) < 0)) (by decide) (by decide) rfl (Nat.le_of_ble_eq_true rfl) N12 gnb11 (g := (mkF m 18 #[.val (.ref ar), .val (.ref b11)] [(.int (1 : Int32)), (.int (1 : Int32)), (.ref b11), (.int (0 : Int32)), (.ref ar)])) rfl (by rw [hml]; rfl) rfl (hb hby d1_18) (by decide) (W := 0) (by show 2 * 0 + _ ≤ _; exact Nat.le_of_eq rfl) (by decide)
  refine own_st st14 ?_
  have V14 : Arv Z h14 b11 k11 .byte (4 : Int32) [(.int (11 : Int32)), (.int v0), (.int (0 : Int32)), (.int (0 : Int32))] (.int (0 : Int32)) := Vc14
  have z14_V_ar := y12_V_ar.keep Kc14 (ninS near_b11 nin0)
  have Z14 : n0 ≤ h14.size := Nat.le_trans Z12 Kc14.1
  have Kk14 : Keep h0 h14 [] := K12.trans Kc14 (allS (Or.inr gkb11) all0)
  show own_Go _ _ _ _ (T14.setTop (mkF m 21 #[.val (.ref ar), .val (.ref b11)] []))
  refine own_st (fun _ k => XS.aloadN X14.here hx rfl (hb hby d1_21) rfl rfl k) ?_
  show own_Go _ _ _ _ (T14.setTop (mkF m 22 #[.val (.ref ar), .val (.ref b11)] [(.ref b11)]))
  refine own_st (fun _ k => XS.aloadN X14.here hx rfl (hb hby d1_22) rfl rfl k) ?_
  show own_Go _ _ _ _ (T14.setTop (mkF m 23 #[.val (.ref ar), .val (.ref b11)] [(.ref b11), (.ref b11)]))
  obtain ⟨cl15, Ar15, -, Sz15, Nn15, -, -⟩ := id V14
  refine own_st (X14.arraylength hx (by rw [e14]; exact Ar15.1) (State.isArrayOf_alike hZ.alike Ar15.2.1) (g := (mkF m 23 #[.val (.ref ar), .val (.ref b11)] [(.ref b11), (.ref b11)])) rfl rfl (hb hby d1_23)) ?_
  rw [len_of Sz15 Nn15]
  show own_Go _ _ _ _ (T14.setTop (mkF m 24 #[.val (.ref ar), .val (.ref b11)] [(.int (4 : Int32)), (.ref b11)]))
  refine own_st (fun _ k => XS.iconst X14.here hx rfl (hb hby d1_24) k) ?_
  show own_Go _ _ _ _ (T14.setTop (mkF m 25 #[.val (.ref ar), .val (.ref b11)] [(.int (2 : Int32)), (.int (4 : Int32)), (.ref b11)]))
  refine own_st (fun _ k => XS.isub X14.here hx rfl (hb hby d1_25) rfl k) ?_
  show own_Go _ _ _ _ (T14.setTop (mkF m 26 #[.val (.ref ar), .val (.ref b11)] [(.int (2 : Int32)), (.ref b11)]))
  refine own_st (fun _ k => XS.bipush X14.here hx rfl (hb hby d1_26) k) ?_
  show own_Go _ _ _ _ (T14.setTop (mkF m 28 #[.val (.ref ar), .val (.ref b11)] [(.int (28 : Int32)), (.int (2 : Int32)), (.ref b11)]))
  obtain ⟨cl16, Ar16, Kd16, Sz16, Nn16, Hs16, Gs16⟩ := id V14
  obtain ⟨T16, h16, X16, e16, W16, st16⟩ := stB X14 hx hZ e14 Ar16 (j := (2 : Int32)) (inb_of Sz16 ⟨(by decide : ¬ ((2 : Int32) < (0 : Int32))), (by decide : (2 : Int32) < (4 : Int32))⟩) (g := (mkF m 28 #[.val (.ref ar), .val (.ref b11)] [(.int (28 : Int32)), (.int (2 : Int32)), (.ref b11)])) rfl rfl (hb hby d1_28)
  refine own_st st16 ?_
  have V16 := Arv.set Ar16 Kd16 Sz16 Nn16 Hs16 Gs16 (fits_nar_byte _) W16 2 rfl (Nat.le_of_ble_eq_true rfl)
  have V16' : Arv Z h16 b11 k11 .byte (4 : Int32) [(.int (11 : Int32)), (.int v0), (.int (28 : Int32)), (.int (0 : Int32))] (.int (0 : Int32)) := V16
  have y16_V_ar := z14_V_ar.other W16 near_b11
  have Z16 : n0 ≤ h16.size := Nat.le_trans Z14 (Nat.le_of_eq W16.size.symm)
  have N16 := Fr.snoc X16 N14 gnb11
  have K16 : Keep h0 h16 [] := Kk14.wr W16 (Or.inr gkb11)
  show own_Go _ _ _ _ (T16.setTop (mkF m 29 #[.val (.ref ar), .val (.ref b11)] []))
  refine own_st (fun _ k => XS.aloadN X16.here hx rfl (hb hby d1_29) rfl rfl k) ?_
  show own_Go _ _ _ _ (T16.setTop (mkF m 30 #[.val (.ref ar), .val (.ref b11)] [(.ref b11)]))
  refine own_st (fun _ k => XS.aloadN X16.here hx rfl (hb hby d1_30) rfl rfl k) ?_
  show own_Go _ _ _ _ (T16.setTop (mkF m 31 #[.val (.ref ar), .val (.ref b11)] [(.ref b11), (.ref b11)]))
  obtain ⟨cl17, Ar17, -, Sz17, Nn17, -, -⟩ := id V16'
  refine own_st (X16.arraylength hx (by rw [e16]; exact Ar17.1) (State.isArrayOf_alike hZ.alike Ar17.2.1) (g := (mkF m 31 #[.val (.ref ar), .val (.ref b11)] [(.ref b11), (.ref b11)])) rfl rfl (hb hby d1_31)) ?_
  rw [len_of Sz17 Nn17]
  show own_Go _ _ _ _ (T16.setTop (mkF m 32 #[.val (.ref ar), .val (.ref b11)] [(.int (4 : Int32)), (.ref b11)]))
  refine own_st (fun _ k => XS.iconst X16.here hx rfl (hb hby d1_32) k) ?_
  show own_Go _ _ _ _ (T16.setTop (mkF m 33 #[.val (.ref ar), .val (.ref b11)] [(.int (1 : Int32)), (.int (4 : Int32)), (.ref b11)]))
  refine own_st (fun _ k => XS.isub X16.here hx rfl (hb hby d1_33) rfl k) ?_
  show own_Go _ _ _ _ (T16.setTop (mkF m 34 #[.val (.ref ar), .val (.ref b11)] [(.int (3 : Int32)), (.ref b11)]))
  refine own_st (fun _ k => XS.bipush X16.here hx rfl (hb hby d1_34) k) ?_
  show own_Go _ _ _ _ (T16.setTop (mkF m 36 #[.val (.ref ar), .val (.ref b11)] [(.int (13 : Int32)), (.int (3 : Int32)), (.ref b11)]))
  obtain ⟨cl18, Ar18, Kd18, Sz18, Nn18, Hs18, Gs18⟩ := id V16'
  obtain ⟨T18, h18, X18, e18, W18, st18⟩ := stB X16 hx hZ e16 Ar18 (j := (3 : Int32)) (inb_of Sz18 ⟨(by decide : ¬ ((3 : Int32) < (0 : Int32))), (by decide : (3 : Int32) < (4 : Int32))⟩) (g := (mkF m 36 #[.val (.ref ar), .val (.ref b11)] [(.int (13 : Int32)), (.int (3 : Int32)), (.ref b11)])) rfl rfl (hb hby d1_36)
  refine own_st st18 ?_
  have V18 := Arv.set Ar18 Kd18 Sz18 Nn18 Hs18 Gs18 (fits_nar_byte _) W18 3 rfl (Nat.le_of_ble_eq_true rfl)
  have V18' : Arv Z h18 b11 k11 .byte (4 : Int32) [(.int (11 : Int32)), (.int v0), (.int (28 : Int32)), (.int (13 : Int32))] (.int (0 : Int32)) := V18
  have y18_V_ar := y16_V_ar.other W18 near_b11
  have Z18 : n0 ≤ h18.size := Nat.le_trans Z16 (Nat.le_of_eq W18.size.symm)
  have N18 := Fr.snoc X18 N16 gnb11
  have K18 : Keep h0 h18 [] := K16.wr W18 (Or.inr gkb11)
  show own_Go _ _ _ _ (T18.setTop (mkF m 37 #[.val (.ref ar), .val (.ref b11)] []))
  refine own_st (fun _ k => XS.aloadN X18.here hx rfl (hb hby d1_37) rfl rfl k) ?_
  show own_Go _ _ _ _ (T18.setTop (mkF m 38 #[.val (.ref ar), .val (.ref b11)] [(.ref b11)]))
  obtain ⟨fs, hr, hrun, hended, hW, hsame⟩ := X18.leave (v := some (.ref b11)) (fun h => by rw [Bd.returns] at h; cases h)
  refine own_out ((by
      jvm_step X18.here [X18.here.top, hx, (hb hby d1_38), X18.method', Bd.returns, Value.isRef, FieldType.isReference]
      first | (intro acts; rw [hr _ acts rfl rfl rfl]) | rw [hr _ _ rfl rfl rfl]
      exact Steps.refl _)) ⟨hrun, hended, _, _, rfl, ?_, ⟨_, rfl⟩, hW, hsame.mono (by decide) (by decide)⟩
  show Q1_1 Z ar kk v0 h0 n0 _ T18.heap _
  rw [e18]
  exact ⟨b11, k11, rfl, N18, K18, gkb11, V18'⟩
def Q1_2 (Z : State) (ar : Addr) (kk : ClassId) (v0 : Int32) (v1 : Int32) (h0 : Heap) (n0 : Nat) (v : Option Value) (h : Heap) (L : List Loc) : Prop := ∃ (b : Addr) (k : ClassId), v = some (.ref b) ∧ Fr n0 L ∧ Keep h0 h [] ∧ h0.size ≤ b ∧ Arv Z h b k .byte (5 : Int32) [.int (11 : Int32), .int v0, .int v1, .int (28 : Int32), .int (13 : Int32)] (.int (0 : Int32))
theorem ef_1_2 (m : MethodId) (x0 : Addr) : entryFrame m #[(.ref x0)] 2 = mkF m 0 #[.val (.ref x0), .unset] [] := by first | (simp [entryFrame, mkF, argsToLocals, Value.category]; done) | rfl
set_option maxRecDepth 65536 in
set_option maxHeartbeats 40000000 in
theorem rm1_2 (l : Launch) (Z : State) (a0 : Array Value) (hw : ∀ d ∈ tables_1, d.before a0 Z = true) (ws : List Jvm.Cond) (ar : Addr) (kk : ClassId) (v0 : Int32) (v1 : Int32) (h0 : Heap) (n0 : Nat) (Z0 : n0 ≤ h0.size) (V_ar : Arv Z h0 ar kk .byte (2 : Int32) [.int v0, .int v1] (.int (0 : Int32))) :
    MetFree l (⟨"quillvax/mllp/Mllp", "frame", "([B)[B"⟩ : MethodName) (head1 (Jvm.Cond.code (⟨"quillvax/mllp/Mllp", "frame", "([B)[B"⟩ : MethodName) prog_7_method_3_code 2 (some (.array .byte)) :: ws) ({ frames := 1, cells := 1, slots := 6, locals := 40 } : Room)) (fun a U => a = #[(.ref ar)] ∧ Z.Warmed39 U.vm ∧ U.heap = h0) (fun _ _ _ _ _ => True) (fun _ U o U' => ∃ v L, o = .returned v ∧ Q1_2 Z ar kk v0 v1 h0 n0 v U'.heap L ∧ FrameEnd U o U' L ({ frames := 1, cells := 1, slots := 6, locals := 40 } : Room).cells ({ frames := 1, cells := 1, slots := 6, locals := 40 } : Room).slots) := by
  refine MetFree.of_bodySF (plainFor_of_name own_pn0) hisR ?_
  intro p e s m args below meth c s₁ Bd hml0 hP hK
  obtain ⟨rfl, hZ, hh⟩ := hP
  have hx := Bd.exec
  have hby := Bd.bytes
  have hml : c.maxLocals = 2 := hml0
  have hown : s.vm.findClass "quillvax/mllp/Mllp" = some m.cls := findClass_of_methodNamed Bd.named
  have hnm := (name_of_methodNamed Bd.named Bd.method).1
  have X0 : Stand p l e ({ frames := 1, cells := 1, slots := 6, locals := 40 } : Room) s m #[(.ref ar)] below meth c s₁ [] 0 0 := Stand.of_body Bd
  have e0 : s₁.heap = h0 := by rw [← hh, Bd.state]; rfl
  have N0 := Fr.nil n0
  refine own_in ?_
  refine own_st (fun _ k => castTop (ef_1_2 m ar) k) ?_
  have K0 : Keep h0 h0 [] := Keep.refl h0 []
  show own_Go _ _ _ _ (s₁.setTop (mkF m 0 #[.val (.ref ar), .unset] []))
  refine own_st (fun _ k => XS.aloadN X0.here hx rfl (hb hby d1_0) rfl rfl k) ?_
  show own_Go _ _ _ _ (s₁.setTop (mkF m 1 #[.val (.ref ar), .unset] [(.ref ar)]))
  obtain ⟨cl19, Ar19, -, Sz19, Nn19, -, -⟩ := id V_ar
  refine own_st (X0.arraylength hx (by rw [e0]; exact Ar19.1) (State.isArrayOf_alike hZ.alike Ar19.2.1) (g := (mkF m 1 #[.val (.ref ar), .unset] [(.ref ar)])) rfl rfl (hb hby d1_1)) ?_
  rw [len_of Sz19 Nn19]
  show own_Go _ _ _ _ (s₁.setTop (mkF m 2 #[.val (.ref ar), .unset] [(.int (2 : Int32))]))
  refine own_st (fun _ k => XS.iconst X0.here hx rfl (hb hby d1_2) k) ?_
  show own_Go _ _ _ _ (s₁.setTop (mkF m 3 #[.val (.ref ar), .unset] [(.int (3 : Int32)), (.int (2 : Int32))]))
  refine own_st (fun _ k => XS.iadd X0.here hx rfl (hb hby d1_3) rfl k) ?_
  show own_Go _ _ _ _ (s₁.setTop (mkF m 4 #[.val (.ref ar), .unset] [(.int (5 : Int32))]))
  obtain ⟨T20, h20, k20, X20, e20, E20, A20, st20⟩ := newP X0 hx hZ (hw _ (List.mem_of_getElem? (i := 0) rfl)) e0 (g := (mkF m 4 #[.val (.ref ar), .unset] [(.int (5 : Int32))])) rfl (hb hby d1_4) rfl (by decide : ¬ ((5 : Int32) < (0 : Int32))) (cap := 5) (by decide : ((5 : Int32)).toNatClampNeg ≤ 5) (by decide) (by decide) (by decide)
  obtain ⟨b20, g20⟩ : ∃ z, z = h0.size := ⟨_, rfl⟩
  rw [← g20] at A20 st20
  refine own_st st20 ?_
  have near_b20 : ar ≠ b20 := Nat.ne_of_lt (Nat.lt_of_lt_of_le V_ar.lt (Nat.le_of_eq g20.symm))
  have x20_V_ar := V_ar.ext E20
  have Z20 : n0 ≤ h20.size := Nat.le_trans Z0 E20.1
  have gnb20 : n0 ≤ b20 := Nat.le_trans Z0 (Nat.le_of_eq g20.symm)
  have gkb20 : h0.size ≤ b20 := Nat.le_trans K0.1 (Nat.le_of_eq g20.symm)
  have K20 : Keep h0 h20 [] := K0.ext E20
  have V20 : Arv Z h20 b20 k20 .byte (5 : Int32) [(.int (0 : Int32)), (.int (0 : Int32)), (.int (0 : Int32)), (.int (0 : Int32)), (.int (0 : Int32))] (.int (0 : Int32)) := (Arv.new A20 (by decide : ¬ ((5 : Int32) < (0 : Int32)))).pad (pad_rep [] (.int (0 : Int32)) 5)
  show own_Go _ _ _ _ (T20.setTop (mkF m 6 #[.val (.ref ar), .unset] [(.ref b20)]))
  refine own_st (fun _ k => XS.astoreN X20.here hx rfl (hb hby d1_6) rfl rfl (l' := #[.val (.ref ar), .val (.ref b20)]) rfl k) ?_
  show own_Go _ _ _ _ (T20.setTop (mkF m 7 #[.val (.ref ar), .val (.ref b20)] []))
  refine own_st (fun _ k => XS.aloadN X20.here hx rfl (hb hby d1_7) rfl rfl k) ?_
  show own_Go _ _ _ _ (T20.setTop (mkF m 8 #[.val (.ref ar), .val (.ref b20)] [(.ref b20)]))
  refine own_st (fun _ k => XS.iconst X20.here hx rfl (hb hby d1_8) k) ?_
  show own_Go _ _ _ _ (T20.setTop (mkF m 9 #[.val (.ref ar), .val (.ref b20)] [(.int (0 : Int32)), (.ref b20)]))
  refine own_st (fun _ k => XS.bipush X20.here hx rfl (hb hby d1_9) k) ?_
  show own_Go _ _ _ _ (T20.setTop (mkF m 11 #[.val (.ref ar), .val (.ref b20)] [(.int (11 : Int32)), (.int (0 : Int32)), (.ref b20)]))
  obtain ⟨cl21, Ar21, Kd21, Sz21, Nn21, Hs21, Gs21⟩ := id V20
  obtain ⟨T21, h21, X21, e21, W21, st21⟩ := stB X20 hx hZ e20 Ar21 (j := (0 : Int32)) (inb_of Sz21 ⟨(by decide : ¬ ((0 : Int32) < (0 : Int32))), (by decide : (0 : Int32) < (5 : Int32))⟩) (g := (mkF m 11 #[.val (.ref ar), .val (.ref b20)] [(.int (11 : Int32)), (.int (0 : Int32)), (.ref b20)])) rfl rfl (hb hby d1_11)
  refine own_st st21 ?_
  have V21 := Arv.set Ar21 Kd21 Sz21 Nn21 Hs21 Gs21 (fits_nar_byte _) W21 0 rfl (Nat.le_of_ble_eq_true rfl)
  have V21' : Arv Z h21 b20 k20 .byte (5 : Int32) [(.int (11 : Int32)), (.int (0 : Int32)), (.int (0 : Int32)), (.int (0 : Int32)), (.int (0 : Int32))] (.int (0 : Int32)) := V21
  have y21_V_ar := x20_V_ar.other W21 near_b20
  have Z21 : n0 ≤ h21.size := Nat.le_trans Z20 (Nat.le_of_eq W21.size.symm)
  have N21 := Fr.snoc X21 N0 gnb20
  have K21 : Keep h0 h21 [] := K20.wr W21 (Or.inr gkb20)
  show own_Go _ _ _ _ (T21.setTop (mkF m 12 #[.val (.ref ar), .val (.ref b20)] []))
  refine own_st (fun _ k => XS.aloadN X21.here hx rfl (hb hby d1_12) rfl rfl k) ?_
  show own_Go _ _ _ _ (T21.setTop (mkF m 13 #[.val (.ref ar), .val (.ref b20)] [(.ref ar)]))
  refine own_st (fun _ k => XS.iconst X21.here hx rfl (hb hby d1_13) k) ?_
  show own_Go _ _ _ _ (T21.setTop (mkF m 14 #[.val (.ref ar), .val (.ref b20)] [(.int (0 : Int32)), (.ref ar)]))
  refine own_st (fun _ k => XS.aloadN X21.here hx rfl (hb hby d1_14) rfl rfl k) ?_
  show own_Go _ _ _ _ (T21.setTop (mkF m 15 #[.val (.ref ar), .val (.ref b20)] [(.ref b20), (.int (0 : Int32)), (.ref ar)]))
  refine own_st (fun _ k => XS.iconst X21.here hx rfl (hb hby d1_15) k) ?_
  show own_Go _ _ _ _ (T21.setTop (mkF m 16 #[.val (.ref ar), .val (.ref b20)] [(.int (1 : Int32)), (.ref b20), (.int (0 : Int32)), (.ref ar)]))
  refine own_st (fun _ k => XS.aloadN X21.here hx rfl (hb hby d1_16) rfl rfl k) ?_
  show own_Go _ _ _ _ (T21.setTop (mkF m 17 #[.val (.ref ar), .val (.ref b20)] [(.ref ar), (.int (1 : Int32)), (.ref b20), (.int (0 : Int32)), (.ref ar)]))
  obtain ⟨cl22, Ar22, -, Sz22, Nn22, -, -⟩ := id y21_V_ar
  refine own_st (X21.arraylength hx (by rw [e21]; exact Ar22.1) (State.isArrayOf_alike hZ.alike Ar22.2.1) (g := (mkF m 17 #[.val (.ref ar), .val (.ref b20)] [(.ref ar), (.int (1 : Int32)), (.ref b20), (.int (0 : Int32)), (.ref ar)])) rfl rfl (hb hby d1_17)) ?_
  rw [len_of Sz22 Nn22]
  show own_Go _ _ _ _ (T21.setTop (mkF m 18 #[.val (.ref ar), .val (.ref b20)] [(.int (2 : Int32)), (.int (1 : Int32)), (.ref b20), (.int (0 : Int32)), (.ref ar)]))
  obtain ⟨T23, h23, L23, X23, e23, N23, Kc23, Vc23, st23⟩ := cpA X21 hx hZ hown (hw _ (List.mem_of_getElem? (i := 5) rfl)) (hw _ (List.mem_of_getElem? (i := 8) rfl)) (hw _ (List.mem_of_getElem? (i := 6) rfl)) (hw _ (List.mem_of_getElem? (i := 7) rfl)) e21 y21_V_ar V21' (us := [(.int v0), (.int v1)]) (Or.inl ⟨rfl, rfl⟩) (by decide : ¬ ((0 : Int32) < 0)) (by decide : ¬ ((1 : Int32) < 0)) (by decide : ¬ ((2 : Int32) < 0)) (by decide) (by decide) rfl (Nat.le_of_ble_eq_true rfl) N21 gnb20 (g := (mkF m 18 #[.val (.ref ar), .val (.ref b20)] [(.int (2 : Int32)), (.int (1 : Int32)), (.ref b20), (.int (0 : Int32)), (.ref ar)])) rfl (by rw [hml]; rfl) rfl (hb hby d1_18) (by decide) (W := 0) (by show 2 * 0 + _ ≤ _; exact Nat.le_of_eq rfl) (by decide)
  refine own_st st23 ?_
  have V23 : Arv Z h23 b20 k20 .byte (5 : Int32) [(.int (11 : Int32)), (.int v0), (.int v1), (.int (0 : Int32)), (.int (0 : Int32))] (.int (0 : Int32)) := Vc23
  have z23_V_ar := y21_V_ar.keep Kc23 (ninS near_b20 nin0)
  have Z23 : n0 ≤ h23.size := Nat.le_trans Z21 Kc23.1
  have Kk23 : Keep h0 h23 [] := K21.trans Kc23 (allS (Or.inr gkb20) all0)
  show own_Go _ _ _ _ (T23.setTop (mkF m 21 #[.val (.ref ar), .val (.ref b20)] []))
  refine own_st (fun _ k => XS.aloadN X23.here hx rfl (hb hby d1_21) rfl rfl k) ?_
  show own_Go _ _ _ _ (T23.setTop (mkF m 22 #[.val (.ref ar), .val (.ref b20)] [(.ref b20)]))
  refine own_st (fun _ k => XS.aloadN X23.here hx rfl (hb hby d1_22) rfl rfl k) ?_
  show own_Go _ _ _ _ (T23.setTop (mkF m 23 #[.val (.ref ar), .val (.ref b20)] [(.ref b20), (.ref b20)]))
  obtain ⟨cl24, Ar24, -, Sz24, Nn24, -, -⟩ := id V23
  refine own_st (X23.arraylength hx (by rw [e23]; exact Ar24.1) (State.isArrayOf_alike hZ.alike Ar24.2.1) (g := (mkF m 23 #[.val (.ref ar), .val (.ref b20)] [(.ref b20), (.ref b20)])) rfl rfl (hb hby d1_23)) ?_
  rw [len_of Sz24 Nn24]
  show own_Go _ _ _ _ (T23.setTop (mkF m 24 #[.val (.ref ar), .val (.ref b20)] [(.int (5 : Int32)), (.ref b20)]))
  refine own_st (fun _ k => XS.iconst X23.here hx rfl (hb hby d1_24) k) ?_
  show own_Go _ _ _ _ (T23.setTop (mkF m 25 #[.val (.ref ar), .val (.ref b20)] [(.int (2 : Int32)), (.int (5 : Int32)), (.ref b20)]))
  refine own_st (fun _ k => XS.isub X23.here hx rfl (hb hby d1_25) rfl k) ?_
  show own_Go _ _ _ _ (T23.setTop (mkF m 26 #[.val (.ref ar), .val (.ref b20)] [(.int (3 : Int32)), (.ref b20)]))
  refine own_st (fun _ k => XS.bipush X23.here hx rfl (hb hby d1_26) k) ?_
  show own_Go _ _ _ _ (T23.setTop (mkF m 28 #[.val (.ref ar), .val (.ref b20)] [(.int (28 : Int32)), (.int (3 : Int32)), (.ref b20)]))
  obtain ⟨cl25, Ar25, Kd25, Sz25, Nn25, Hs25, Gs25⟩ := id V23
  obtain ⟨T25, h25, X25, e25, W25, st25⟩ := stB X23 hx hZ e23 Ar25 (j := (3 : Int32)) (inb_of Sz25 ⟨(by decide : ¬ ((3 : Int32) < (0 : Int32))), (by decide : (3 : Int32) < (5 : Int32))⟩) (g := (mkF m 28 #[.val (.ref ar), .val (.ref b20)] [(.int (28 : Int32)), (.int (3 : Int32)), (.ref b20)])) rfl rfl (hb hby d1_28)
  refine own_st st25 ?_
  have V25 := Arv.set Ar25 Kd25 Sz25 Nn25 Hs25 Gs25 (fits_nar_byte _) W25 3 rfl (Nat.le_of_ble_eq_true rfl)
  have V25' : Arv Z h25 b20 k20 .byte (5 : Int32) [(.int (11 : Int32)), (.int v0), (.int v1), (.int (28 : Int32)), (.int (0 : Int32))] (.int (0 : Int32)) := V25
  have y25_V_ar := z23_V_ar.other W25 near_b20
  have Z25 : n0 ≤ h25.size := Nat.le_trans Z23 (Nat.le_of_eq W25.size.symm)
  have N25 := Fr.snoc X25 N23 gnb20
  have K25 : Keep h0 h25 [] := Kk23.wr W25 (Or.inr gkb20)
  show own_Go _ _ _ _ (T25.setTop (mkF m 29 #[.val (.ref ar), .val (.ref b20)] []))
  refine own_st (fun _ k => XS.aloadN X25.here hx rfl (hb hby d1_29) rfl rfl k) ?_
  show own_Go _ _ _ _ (T25.setTop (mkF m 30 #[.val (.ref ar), .val (.ref b20)] [(.ref b20)]))
  refine own_st (fun _ k => XS.aloadN X25.here hx rfl (hb hby d1_30) rfl rfl k) ?_
  show own_Go _ _ _ _ (T25.setTop (mkF m 31 #[.val (.ref ar), .val (.ref b20)] [(.ref b20), (.ref b20)]))
  obtain ⟨cl26, Ar26, -, Sz26, Nn26, -, -⟩ := id V25'
  refine own_st (X25.arraylength hx (by rw [e25]; exact Ar26.1) (State.isArrayOf_alike hZ.alike Ar26.2.1) (g := (mkF m 31 #[.val (.ref ar), .val (.ref b20)] [(.ref b20), (.ref b20)])) rfl rfl (hb hby d1_31)) ?_
  rw [len_of Sz26 Nn26]
  show own_Go _ _ _ _ (T25.setTop (mkF m 32 #[.val (.ref ar), .val (.ref b20)] [(.int (5 : Int32)), (.ref b20)]))
  refine own_st (fun _ k => XS.iconst X25.here hx rfl (hb hby d1_32) k) ?_
  show own_Go _ _ _ _ (T25.setTop (mkF m 33 #[.val (.ref ar), .val (.ref b20)] [(.int (1 : Int32)), (.int (5 : Int32)), (.ref b20)]))
  refine own_st (fun _ k => XS.isub X25.here hx rfl (hb hby d1_33) rfl k) ?_
  show own_Go _ _ _ _ (T25.setTop (mkF m 34 #[.val (.ref ar), .val (.ref b20)] [(.int (4 : Int32)), (.ref b20)]))
  refine own_st (fun _ k => XS.bipush X25.here hx rfl (hb hby d1_34) k) ?_
  show own_Go _ _ _ _ (T25.setTop (mkF m 36 #[.val (.ref ar), .val (.ref b20)] [(.int (13 : Int32)), (.int (4 : Int32)), (.ref b20)]))
  obtain ⟨cl27, Ar27, Kd27, Sz27, Nn27, Hs27, Gs27⟩ := id V25'
  obtain ⟨T27, h27, X27, e27, W27, st27⟩ := stB X25 hx hZ e25 Ar27 (j := (4 : Int32)) (inb_of Sz27 ⟨(by decide : ¬ ((4 : Int32) < (0 : Int32))), (by decide : (4 : Int32) < (5 : Int32))⟩) (g := (mkF m 36 #[.val (.ref ar), .val (.ref b20)] [(.int (13 : Int32)), (.int (4 : Int32)), (.ref b20)])) rfl rfl (hb hby d1_36)
  refine own_st st27 ?_
  have V27 := Arv.set Ar27 Kd27 Sz27 Nn27 Hs27 Gs27 (fits_nar_byte _) W27 4 rfl (Nat.le_of_ble_eq_true rfl)
  have V27' : Arv Z h27 b20 k20 .byte (5 : Int32) [(.int (11 : Int32)), (.int v0), (.int v1), (.int (28 : Int32)), (.int (13 : Int32))] (.int (0 : Int32)) := V27
  have y27_V_ar := y25_V_ar.other W27 near_b20
  have Z27 : n0 ≤ h27.size := Nat.le_trans Z25 (Nat.le_of_eq W27.size.symm)
  have N27 := Fr.snoc X27 N25 gnb20
  have K27 : Keep h0 h27 [] := K25.wr W27 (Or.inr gkb20)
  show own_Go _ _ _ _ (T27.setTop (mkF m 37 #[.val (.ref ar), .val (.ref b20)] []))
  refine own_st (fun _ k => XS.aloadN X27.here hx rfl (hb hby d1_37) rfl rfl k) ?_
  show own_Go _ _ _ _ (T27.setTop (mkF m 38 #[.val (.ref ar), .val (.ref b20)] [(.ref b20)]))
  obtain ⟨fs, hr, hrun, hended, hW, hsame⟩ := X27.leave (v := some (.ref b20)) (fun h => by rw [Bd.returns] at h; cases h)
  refine own_out ((by
      jvm_step X27.here [X27.here.top, hx, (hb hby d1_38), X27.method', Bd.returns, Value.isRef, FieldType.isReference]
      first | (intro acts; rw [hr _ acts rfl rfl rfl]) | rw [hr _ _ rfl rfl rfl]
      exact Steps.refl _)) ⟨hrun, hended, _, _, rfl, ?_, ⟨_, rfl⟩, hW, hsame.mono (by decide) (by decide)⟩
  show Q1_2 Z ar kk v0 v1 h0 n0 _ T27.heap _
  rw [e27]
  exact ⟨b20, k20, rfl, N27, K27, gkb20, V27'⟩
def Q1_3 (Z : State) (ar : Addr) (kk : ClassId) (v0 : Int32) (v1 : Int32) (v2 : Int32) (h0 : Heap) (n0 : Nat) (v : Option Value) (h : Heap) (L : List Loc) : Prop := ∃ (b : Addr) (k : ClassId), v = some (.ref b) ∧ Fr n0 L ∧ Keep h0 h [] ∧ h0.size ≤ b ∧ Arv Z h b k .byte (6 : Int32) [.int (11 : Int32), .int v0, .int v1, .int v2, .int (28 : Int32), .int (13 : Int32)] (.int (0 : Int32))
theorem ef_1_3 (m : MethodId) (x0 : Addr) : entryFrame m #[(.ref x0)] 2 = mkF m 0 #[.val (.ref x0), .unset] [] := by first | (simp [entryFrame, mkF, argsToLocals, Value.category]; done) | rfl
set_option maxRecDepth 65536 in
set_option maxHeartbeats 40000000 in
theorem rm1_3 (l : Launch) (Z : State) (a0 : Array Value) (hw : ∀ d ∈ tables_1, d.before a0 Z = true) (ws : List Jvm.Cond) (ar : Addr) (kk : ClassId) (v0 : Int32) (v1 : Int32) (v2 : Int32) (h0 : Heap) (n0 : Nat) (Z0 : n0 ≤ h0.size) (V_ar : Arv Z h0 ar kk .byte (3 : Int32) [.int v0, .int v1, .int v2] (.int (0 : Int32))) :
    MetFree l (⟨"quillvax/mllp/Mllp", "frame", "([B)[B"⟩ : MethodName) (head1 (Jvm.Cond.code (⟨"quillvax/mllp/Mllp", "frame", "([B)[B"⟩ : MethodName) prog_7_method_3_code 2 (some (.array .byte)) :: ws) ({ frames := 1, cells := 1, slots := 6, locals := 40 } : Room)) (fun a U => a = #[(.ref ar)] ∧ Z.Warmed39 U.vm ∧ U.heap = h0) (fun _ _ _ _ _ => True) (fun _ U o U' => ∃ v L, o = .returned v ∧ Q1_3 Z ar kk v0 v1 v2 h0 n0 v U'.heap L ∧ FrameEnd U o U' L ({ frames := 1, cells := 1, slots := 6, locals := 40 } : Room).cells ({ frames := 1, cells := 1, slots := 6, locals := 40 } : Room).slots) := by
  refine MetFree.of_bodySF (plainFor_of_name own_pn0) hisR ?_
  intro p e s m args below meth c s₁ Bd hml0 hP hK
  obtain ⟨rfl, hZ, hh⟩ := hP
  have hx := Bd.exec
  have hby := Bd.bytes
  have hml : c.maxLocals = 2 := hml0
  have hown : s.vm.findClass "quillvax/mllp/Mllp" = some m.cls := findClass_of_methodNamed Bd.named
  have hnm := (name_of_methodNamed Bd.named Bd.method).1
  have X0 : Stand p l e ({ frames := 1, cells := 1, slots := 6, locals := 40 } : Room) s m #[(.ref ar)] below meth c s₁ [] 0 0 := Stand.of_body Bd
  have e0 : s₁.heap = h0 := by rw [← hh, Bd.state]; rfl
  have N0 := Fr.nil n0
  refine own_in ?_
  refine own_st (fun _ k => castTop (ef_1_3 m ar) k) ?_
  have K0 : Keep h0 h0 [] := Keep.refl h0 []
  show own_Go _ _ _ _ (s₁.setTop (mkF m 0 #[.val (.ref ar), .unset] []))
  refine own_st (fun _ k => XS.aloadN X0.here hx rfl (hb hby d1_0) rfl rfl k) ?_
  show own_Go _ _ _ _ (s₁.setTop (mkF m 1 #[.val (.ref ar), .unset] [(.ref ar)]))
  obtain ⟨cl28, Ar28, -, Sz28, Nn28, -, -⟩ := id V_ar
  refine own_st (X0.arraylength hx (by rw [e0]; exact Ar28.1) (State.isArrayOf_alike hZ.alike Ar28.2.1) (g := (mkF m 1 #[.val (.ref ar), .unset] [(.ref ar)])) rfl rfl (hb hby d1_1)) ?_
  rw [len_of Sz28 Nn28]
  show own_Go _ _ _ _ (s₁.setTop (mkF m 2 #[.val (.ref ar), .unset] [(.int (3 : Int32))]))
  refine own_st (fun _ k => XS.iconst X0.here hx rfl (hb hby d1_2) k) ?_
  show own_Go _ _ _ _ (s₁.setTop (mkF m 3 #[.val (.ref ar), .unset] [(.int (3 : Int32)), (.int (3 : Int32))]))
  refine own_st (fun _ k => XS.iadd X0.here hx rfl (hb hby d1_3) rfl k) ?_
  show own_Go _ _ _ _ (s₁.setTop (mkF m 4 #[.val (.ref ar), .unset] [(.int (6 : Int32))]))
  obtain ⟨T29, h29, k29, X29, e29, E29, A29, st29⟩ := newP X0 hx hZ (hw _ (List.mem_of_getElem? (i := 0) rfl)) e0 (g := (mkF m 4 #[.val (.ref ar), .unset] [(.int (6 : Int32))])) rfl (hb hby d1_4) rfl (by decide : ¬ ((6 : Int32) < (0 : Int32))) (cap := 6) (by decide : ((6 : Int32)).toNatClampNeg ≤ 6) (by decide) (by decide) (by decide)
  obtain ⟨b29, g29⟩ : ∃ z, z = h0.size := ⟨_, rfl⟩
  rw [← g29] at A29 st29
  refine own_st st29 ?_
  have near_b29 : ar ≠ b29 := Nat.ne_of_lt (Nat.lt_of_lt_of_le V_ar.lt (Nat.le_of_eq g29.symm))
  have x29_V_ar := V_ar.ext E29
  have Z29 : n0 ≤ h29.size := Nat.le_trans Z0 E29.1
  have gnb29 : n0 ≤ b29 := Nat.le_trans Z0 (Nat.le_of_eq g29.symm)
  have gkb29 : h0.size ≤ b29 := Nat.le_trans K0.1 (Nat.le_of_eq g29.symm)
  have K29 : Keep h0 h29 [] := K0.ext E29
  have V29 : Arv Z h29 b29 k29 .byte (6 : Int32) [(.int (0 : Int32)), (.int (0 : Int32)), (.int (0 : Int32)), (.int (0 : Int32)), (.int (0 : Int32)), (.int (0 : Int32))] (.int (0 : Int32)) := (Arv.new A29 (by decide : ¬ ((6 : Int32) < (0 : Int32)))).pad (pad_rep [] (.int (0 : Int32)) 6)
  show own_Go _ _ _ _ (T29.setTop (mkF m 6 #[.val (.ref ar), .unset] [(.ref b29)]))
  refine own_st (fun _ k => XS.astoreN X29.here hx rfl (hb hby d1_6) rfl rfl (l' := #[.val (.ref ar), .val (.ref b29)]) rfl k) ?_
  show own_Go _ _ _ _ (T29.setTop (mkF m 7 #[.val (.ref ar), .val (.ref b29)] []))
  refine own_st (fun _ k => XS.aloadN X29.here hx rfl (hb hby d1_7) rfl rfl k) ?_
  show own_Go _ _ _ _ (T29.setTop (mkF m 8 #[.val (.ref ar), .val (.ref b29)] [(.ref b29)]))
  refine own_st (fun _ k => XS.iconst X29.here hx rfl (hb hby d1_8) k) ?_
  show own_Go _ _ _ _ (T29.setTop (mkF m 9 #[.val (.ref ar), .val (.ref b29)] [(.int (0 : Int32)), (.ref b29)]))
  refine own_st (fun _ k => XS.bipush X29.here hx rfl (hb hby d1_9) k) ?_
  show own_Go _ _ _ _ (T29.setTop (mkF m 11 #[.val (.ref ar), .val (.ref b29)] [(.int (11 : Int32)), (.int (0 : Int32)), (.ref b29)]))
  obtain ⟨cl30, Ar30, Kd30, Sz30, Nn30, Hs30, Gs30⟩ := id V29
  obtain ⟨T30, h30, X30, e30, W30, st30⟩ := stB X29 hx hZ e29 Ar30 (j := (0 : Int32)) (inb_of Sz30 ⟨(by decide : ¬ ((0 : Int32) < (0 : Int32))), (by decide : (0 : Int32) < (6 : Int32))⟩) (g := (mkF m 11 #[.val (.ref ar), .val (.ref b29)] [(.int (11 : Int32)), (.int (0 : Int32)), (.ref b29)])) rfl rfl (hb hby d1_11)
  refine own_st st30 ?_
  have V30 := Arv.set Ar30 Kd30 Sz30 Nn30 Hs30 Gs30 (fits_nar_byte _) W30 0 rfl (Nat.le_of_ble_eq_true rfl)
  have V30' : Arv Z h30 b29 k29 .byte (6 : Int32) [(.int (11 : Int32)), (.int (0 : Int32)), (.int (0 : Int32)), (.int (0 : Int32)), (.int (0 : Int32)), (.int (0 : Int32))] (.int (0 : Int32)) := V30
  have y30_V_ar := x29_V_ar.other W30 near_b29
  have Z30 : n0 ≤ h30.size := Nat.le_trans Z29 (Nat.le_of_eq W30.size.symm)
  have N30 := Fr.snoc X30 N0 gnb29
  have K30 : Keep h0 h30 [] := K29.wr W30 (Or.inr gkb29)
  show own_Go _ _ _ _ (T30.setTop (mkF m 12 #[.val (.ref ar), .val (.ref b29)] []))
  refine own_st (fun _ k => XS.aloadN X30.here hx rfl (hb hby d1_12) rfl rfl k) ?_
  show own_Go _ _ _ _ (T30.setTop (mkF m 13 #[.val (.ref ar), .val (.ref b29)] [(.ref ar)]))
  refine own_st (fun _ k => XS.iconst X30.here hx rfl (hb hby d1_13) k) ?_
  show own_Go _ _ _ _ (T30.setTop (mkF m 14 #[.val (.ref ar), .val (.ref b29)] [(.int (0 : Int32)), (.ref ar)]))
  refine own_st (fun _ k => XS.aloadN X30.here hx rfl (hb hby d1_14) rfl rfl k) ?_
  show own_Go _ _ _ _ (T30.setTop (mkF m 15 #[.val (.ref ar), .val (.ref b29)] [(.ref b29), (.int (0 : Int32)), (.ref ar)]))
  refine own_st (fun _ k => XS.iconst X30.here hx rfl (hb hby d1_15) k) ?_
  show own_Go _ _ _ _ (T30.setTop (mkF m 16 #[.val (.ref ar), .val (.ref b29)] [(.int (1 : Int32)), (.ref b29), (.int (0 : Int32)), (.ref ar)]))
  refine own_st (fun _ k => XS.aloadN X30.here hx rfl (hb hby d1_16) rfl rfl k) ?_
  show own_Go _ _ _ _ (T30.setTop (mkF m 17 #[.val (.ref ar), .val (.ref b29)] [(.ref ar), (.int (1 : Int32)), (.ref b29), (.int (0 : Int32)), (.ref ar)]))
  obtain ⟨cl31, Ar31, -, Sz31, Nn31, -, -⟩ := id y30_V_ar
  refine own_st (X30.arraylength hx (by rw [e30]; exact Ar31.1) (State.isArrayOf_alike hZ.alike Ar31.2.1) (g := (mkF m 17 #[.val (.ref ar), .val (.ref b29)] [(.ref ar), (.int (1 : Int32)), (.ref b29), (.int (0 : Int32)), (.ref ar)])) rfl rfl (hb hby d1_17)) ?_
  rw [len_of Sz31 Nn31]
  show own_Go _ _ _ _ (T30.setTop (mkF m 18 #[.val (.ref ar), .val (.ref b29)] [(.int (3 : Int32)), (.int (1 : Int32)), (.ref b29), (.int (0 : Int32)), (.ref ar)]))
  obtain ⟨T32, h32, L32, X32, e32, N32, Kc32, Vc32, st32⟩ := cpA X30 hx hZ hown (hw _ (List.mem_of_getElem? (i := 5) rfl)) (hw _ (List.mem_of_getElem? (i := 8) rfl)) (hw _ (List.mem_of_getElem? (i := 6) rfl)) (hw _ (List.mem_of_getElem? (i := 7) rfl)) e30 y30_V_ar V30' (us := [(.int v0), (.int v1), (.int v2)]) (Or.inl ⟨rfl, rfl⟩) (by decide : ¬ ((0 : Int32) < 0)) (by decide : ¬ ((1 : Int32) < 0)) (by decide : ¬ ((3 : Int32) < 0)) (by decide) (by decide) rfl (Nat.le_of_ble_eq_true rfl) N30 gnb29 (g := (mkF m 18 #[.val (.ref ar), .val (.ref b29)] [(.int (3 : Int32)), (.int (1 : Int32)), (.ref b29), (.int (0 : Int32)), (.ref ar)])) rfl (by rw [hml]; rfl) rfl (hb hby d1_18) (by decide) (W := 0) (by show 2 * 0 + _ ≤ _; exact Nat.le_of_eq rfl) (by decide)
  refine own_st st32 ?_
  have V32 : Arv Z h32 b29 k29 .byte (6 : Int32) [(.int (11 : Int32)), (.int v0), (.int v1), (.int v2), (.int (0 : Int32)), (.int (0 : Int32))] (.int (0 : Int32)) := Vc32
  have z32_V_ar := y30_V_ar.keep Kc32 (ninS near_b29 nin0)
  have Z32 : n0 ≤ h32.size := Nat.le_trans Z30 Kc32.1
  have Kk32 : Keep h0 h32 [] := K30.trans Kc32 (allS (Or.inr gkb29) all0)
  show own_Go _ _ _ _ (T32.setTop (mkF m 21 #[.val (.ref ar), .val (.ref b29)] []))
  refine own_st (fun _ k => XS.aloadN X32.here hx rfl (hb hby d1_21) rfl rfl k) ?_
  show own_Go _ _ _ _ (T32.setTop (mkF m 22 #[.val (.ref ar), .val (.ref b29)] [(.ref b29)]))
  refine own_st (fun _ k => XS.aloadN X32.here hx rfl (hb hby d1_22) rfl rfl k) ?_
  show own_Go _ _ _ _ (T32.setTop (mkF m 23 #[.val (.ref ar), .val (.ref b29)] [(.ref b29), (.ref b29)]))
  obtain ⟨cl33, Ar33, -, Sz33, Nn33, -, -⟩ := id V32
  refine own_st (X32.arraylength hx (by rw [e32]; exact Ar33.1) (State.isArrayOf_alike hZ.alike Ar33.2.1) (g := (mkF m 23 #[.val (.ref ar), .val (.ref b29)] [(.ref b29), (.ref b29)])) rfl rfl (hb hby d1_23)) ?_
  rw [len_of Sz33 Nn33]
  show own_Go _ _ _ _ (T32.setTop (mkF m 24 #[.val (.ref ar), .val (.ref b29)] [(.int (6 : Int32)), (.ref b29)]))
  refine own_st (fun _ k => XS.iconst X32.here hx rfl (hb hby d1_24) k) ?_
  show own_Go _ _ _ _ (T32.setTop (mkF m 25 #[.val (.ref ar), .val (.ref b29)] [(.int (2 : Int32)), (.int (6 : Int32)), (.ref b29)]))
  refine own_st (fun _ k => XS.isub X32.here hx rfl (hb hby d1_25) rfl k) ?_
  show own_Go _ _ _ _ (T32.setTop (mkF m 26 #[.val (.ref ar), .val (.ref b29)] [(.int (4 : Int32)), (.ref b29)]))
  refine own_st (fun _ k => XS.bipush X32.here hx rfl (hb hby d1_26) k) ?_
  show own_Go _ _ _ _ (T32.setTop (mkF m 28 #[.val (.ref ar), .val (.ref b29)] [(.int (28 : Int32)), (.int (4 : Int32)), (.ref b29)]))
  obtain ⟨cl34, Ar34, Kd34, Sz34, Nn34, Hs34, Gs34⟩ := id V32
  obtain ⟨T34, h34, X34, e34, W34, st34⟩ := stB X32 hx hZ e32 Ar34 (j := (4 : Int32)) (inb_of Sz34 ⟨(by decide : ¬ ((4 : Int32) < (0 : Int32))), (by decide : (4 : Int32) < (6 : Int32))⟩) (g := (mkF m 28 #[.val (.ref ar), .val (.ref b29)] [(.int (28 : Int32)), (.int (4 : Int32)), (.ref b29)])) rfl rfl (hb hby d1_28)
  refine own_st st34 ?_
  have V34 := Arv.set Ar34 Kd34 Sz34 Nn34 Hs34 Gs34 (fits_nar_byte _) W34 4 rfl (Nat.le_of_ble_eq_true rfl)
  have V34' : Arv Z h34 b29 k29 .byte (6 : Int32) [(.int (11 : Int32)), (.int v0), (.int v1), (.int v2), (.int (28 : Int32)), (.int (0 : Int32))] (.int (0 : Int32)) := V34
  have y34_V_ar := z32_V_ar.other W34 near_b29
  have Z34 : n0 ≤ h34.size := Nat.le_trans Z32 (Nat.le_of_eq W34.size.symm)
  have N34 := Fr.snoc X34 N32 gnb29
  have K34 : Keep h0 h34 [] := Kk32.wr W34 (Or.inr gkb29)
  show own_Go _ _ _ _ (T34.setTop (mkF m 29 #[.val (.ref ar), .val (.ref b29)] []))
  refine own_st (fun _ k => XS.aloadN X34.here hx rfl (hb hby d1_29) rfl rfl k) ?_
  show own_Go _ _ _ _ (T34.setTop (mkF m 30 #[.val (.ref ar), .val (.ref b29)] [(.ref b29)]))
  refine own_st (fun _ k => XS.aloadN X34.here hx rfl (hb hby d1_30) rfl rfl k) ?_
  show own_Go _ _ _ _ (T34.setTop (mkF m 31 #[.val (.ref ar), .val (.ref b29)] [(.ref b29), (.ref b29)]))
  obtain ⟨cl35, Ar35, -, Sz35, Nn35, -, -⟩ := id V34'
  refine own_st (X34.arraylength hx (by rw [e34]; exact Ar35.1) (State.isArrayOf_alike hZ.alike Ar35.2.1) (g := (mkF m 31 #[.val (.ref ar), .val (.ref b29)] [(.ref b29), (.ref b29)])) rfl rfl (hb hby d1_31)) ?_
  rw [len_of Sz35 Nn35]
  show own_Go _ _ _ _ (T34.setTop (mkF m 32 #[.val (.ref ar), .val (.ref b29)] [(.int (6 : Int32)), (.ref b29)]))
  refine own_st (fun _ k => XS.iconst X34.here hx rfl (hb hby d1_32) k) ?_
  show own_Go _ _ _ _ (T34.setTop (mkF m 33 #[.val (.ref ar), .val (.ref b29)] [(.int (1 : Int32)), (.int (6 : Int32)), (.ref b29)]))
  refine own_st (fun _ k => XS.isub X34.here hx rfl (hb hby d1_33) rfl k) ?_
  show own_Go _ _ _ _ (T34.setTop (mkF m 34 #[.val (.ref ar), .val (.ref b29)] [(.int (5 : Int32)), (.ref b29)]))
  refine own_st (fun _ k => XS.bipush X34.here hx rfl (hb hby d1_34) k) ?_
  show own_Go _ _ _ _ (T34.setTop (mkF m 36 #[.val (.ref ar), .val (.ref b29)] [(.int (13 : Int32)), (.int (5 : Int32)), (.ref b29)]))
  obtain ⟨cl36, Ar36, Kd36, Sz36, Nn36, Hs36, Gs36⟩ := id V34'
  obtain ⟨T36, h36, X36, e36, W36, st36⟩ := stB X34 hx hZ e34 Ar36 (j := (5 : Int32)) (inb_of Sz36 ⟨(by decide : ¬ ((5 : Int32) < (0 : Int32))), (by decide : (5 : Int32) < (6 : Int32))⟩) (g := (mkF m 36 #[.val (.ref ar), .val (.ref b29)] [(.int (13 : Int32)), (.int (5 : Int32)), (.ref b29)])) rfl rfl (hb hby d1_36)
  refine own_st st36 ?_
  have V36 := Arv.set Ar36 Kd36 Sz36 Nn36 Hs36 Gs36 (fits_nar_byte _) W36 5 rfl (Nat.le_of_ble_eq_true rfl)
  have V36' : Arv Z h36 b29 k29 .byte (6 : Int32) [(.int (11 : Int32)), (.int v0), (.int v1), (.int v2), (.int (28 : Int32)), (.int (13 : Int32))] (.int (0 : Int32)) := V36
  have y36_V_ar := y34_V_ar.other W36 near_b29
  have Z36 : n0 ≤ h36.size := Nat.le_trans Z34 (Nat.le_of_eq W36.size.symm)
  have N36 := Fr.snoc X36 N34 gnb29
  have K36 : Keep h0 h36 [] := K34.wr W36 (Or.inr gkb29)
  show own_Go _ _ _ _ (T36.setTop (mkF m 37 #[.val (.ref ar), .val (.ref b29)] []))
  refine own_st (fun _ k => XS.aloadN X36.here hx rfl (hb hby d1_37) rfl rfl k) ?_
  show own_Go _ _ _ _ (T36.setTop (mkF m 38 #[.val (.ref ar), .val (.ref b29)] [(.ref b29)]))
  obtain ⟨fs, hr, hrun, hended, hW, hsame⟩ := X36.leave (v := some (.ref b29)) (fun h => by rw [Bd.returns] at h; cases h)
  refine own_out ((by
      jvm_step X36.here [X36.here.top, hx, (hb hby d1_38), X36.method', Bd.returns, Value.isRef, FieldType.isReference]
      first | (intro acts; rw [hr _ acts rfl rfl rfl]) | rw [hr _ _ rfl rfl rfl]
      exact Steps.refl _)) ⟨hrun, hended, _, _, rfl, ?_, ⟨_, rfl⟩, hW, hsame.mono (by decide) (by decide)⟩
  show Q1_3 Z ar kk v0 v1 v2 h0 n0 _ T36.heap _
  rw [e36]
  exact ⟨b29, k29, rfl, N36, K36, gkb29, V36'⟩
theorem own_pd1 : parseMethodDescriptor "(IIII)Z" = some ⟨[.int, .int, .int, .int], some .boolean⟩ := by decide +kernel
theorem own_pn1 : plainName "quillvax/mllp/MllpFramePinLaw" = true := by first | (simp [plainName, overriddenIn]; done) | decide +kernel
def Q0 (Z : State) (u0 : Int32) (u1 : Int32) (u2 : Int32) (u3 : Int32) (h0 : Heap) (n0 : Nat) (v : Option Value) (h : Heap) (L : List Loc) : Prop := v = some (.int 1) ∧ Fr n0 L
theorem ef_0 (m : MethodId) (x0 : Int32) (x1 : Int32) (x2 : Int32) (x3 : Int32) : entryFrame m #[(.int x0), (.int x1), (.int x2), (.int x3)] maxLocals = mkF m 0 #[.val (.int x0), .val (.int x1), .val (.int x2), .val (.int x3), .unset, .unset, .unset, .unset, .unset, .unset] [] := by first | (simp [entryFrame, mkF, argsToLocals, Value.category, maxLocals]; done) | rfl
set_option maxRecDepth 65536 in
set_option maxHeartbeats 40000000 in
theorem rm0 (l : Launch) (Z : State) (a0 : Array Value) (hw : ∀ d ∈ tables_1, d.before a0 Z = true) (ws : List Jvm.Cond) (u0 : Int32) (u1 : Int32) (u2 : Int32) (u3 : Int32) (h0 : Heap) (n0 : Nat) (Z0 : n0 ≤ h0.size)  :
    MetFree l x (head1 (Jvm.Cond.code x code maxLocals ret :: ws) room_1) (fun a U => a = #[(.int u0), (.int u1), (.int u2), (.int u3)] ∧ Z.Warmed39 U.vm ∧ U.heap = h0) (fun _ _ _ _ _ => True) (fun _ U o U' => ∃ v L, o = .returned v ∧ Q0 Z u0 u1 u2 u3 h0 n0 v U'.heap L ∧ FrameEnd U o U' L 16 128) := by
  refine MetFree.of_bodySF (plainFor_of_name own_pn1) hisR ?_
  intro p e s m args below meth c s₁ Bd hml0 hP hK
  obtain ⟨rfl, hZ, hh⟩ := hP
  have hx := Bd.exec
  have hby := Bd.bytes
  have hml : c.maxLocals = 10 := hml0
  have hown : s.vm.findClass "quillvax/mllp/MllpFramePinLaw" = some m.cls := findClass_of_methodNamed Bd.named
  have hnm := (name_of_methodNamed Bd.named Bd.method).1
  have X0 : Stand p l e room_1 s m #[(.int u0), (.int u1), (.int u2), (.int u3)] below meth c s₁ [] 0 0 := Stand.of_body Bd
  have e0 : s₁.heap = h0 := by rw [← hh, Bd.state]; rfl
  have N0 := Fr.nil n0
  refine own_in ?_
  refine own_st (fun _ k => castTop (ef_0 m u0 u1 u2 u3) k) ?_
  have K0 : Keep h0 h0 [] := Keep.refl h0 []
  show own_Go _ _ _ _ (s₁.setTop (mkF m 0 #[.val (.int u0), .val (.int u1), .val (.int u2), .val (.int u3), .unset, .unset, .unset, .unset, .unset, .unset] []))
  refine own_st (fun _ k => XS.iloadN X0.here hx rfl (hb hby at_0) rfl k) ?_
  show own_Go _ _ _ _ (s₁.setTop (mkF m 1 #[.val (.int u0), .val (.int u1), .val (.int u2), .val (.int u3), .unset, .unset, .unset, .unset, .unset, .unset] [(.int u0)]))
  refine own_st (fun _ k => XS.iconst X0.here hx rfl (hb hby at_1) k) ?_
  show own_Go _ _ _ _ (s₁.setTop (mkF m 2 #[.val (.int u0), .val (.int u1), .val (.int u2), .val (.int u3), .unset, .unset, .unset, .unset, .unset, .unset] [(.int (3 : Int32)), (.int u0)]))
  refine own_st (fun _ k => XS.iand X0.here hx rfl (hb hby at_2) rfl k) ?_
  show own_Go _ _ _ _ (s₁.setTop (mkF m 3 #[.val (.int u0), .val (.int u1), .val (.int u2), .val (.int u3), .unset, .unset, .unset, .unset, .unset, .unset] [(.int (u0 &&& (3 : Int32)))]))
  refine own_st (fun _ k => XS.istore X0.here hx rfl (hb hby at_3) rfl (l' := #[.val (.int u0), .val (.int u1), .val (.int u2), .val (.int u3), .val (.int (u0 &&& (3 : Int32))), .unset, .unset, .unset, .unset, .unset]) rfl k) ?_
  show own_Go _ _ _ _ (s₁.setTop (mkF m 5 #[.val (.int u0), .val (.int u1), .val (.int u2), .val (.int u3), .val (.int (u0 &&& (3 : Int32))), .unset, .unset, .unset, .unset, .unset] []))
  rcases own_m4 u0 with hs37 | hs37 | hs37 | hs37
  · skip
    rw [hs37]
    show own_Go _ _ _ _ (s₁.setTop (mkF m 5 #[.val (.int u0), .val (.int u1), .val (.int u2), .val (.int u3), .val (.int (0 : Int32)), .unset, .unset, .unset, .unset, .unset] []))
    refine own_st (fun _ k => XS.iloadN X0.here hx rfl (hb hby at_5) rfl k) ?_
    show own_Go _ _ _ _ (s₁.setTop (mkF m 6 #[.val (.int u0), .val (.int u1), .val (.int u2), .val (.int u3), .val (.int (0 : Int32)), .unset, .unset, .unset, .unset, .unset] [(.int u1)]))
    refine own_st (fun _ k => XS.i2b X0.here hx rfl (hb hby at_6) rfl k) ?_
    show own_Go _ _ _ _ (s₁.setTop (mkF m 7 #[.val (.int u0), .val (.int u1), .val (.int u2), .val (.int u3), .val (.int (0 : Int32)), .unset, .unset, .unset, .unset, .unset] [(.int (u1.toInt8.toInt32))]))
    refine own_st (fun _ k => XS.istore X0.here hx rfl (hb hby at_7) rfl (l' := #[.val (.int u0), .val (.int u1), .val (.int u2), .val (.int u3), .val (.int (0 : Int32)), .val (.int (u1.toInt8.toInt32)), .unset, .unset, .unset, .unset]) rfl k) ?_
    show own_Go _ _ _ _ (s₁.setTop (mkF m 9 #[.val (.int u0), .val (.int u1), .val (.int u2), .val (.int u3), .val (.int (0 : Int32)), .val (.int (u1.toInt8.toInt32)), .unset, .unset, .unset, .unset] []))
    refine own_st (fun _ k => XS.iloadN X0.here hx rfl (hb hby at_9) rfl k) ?_
    show own_Go _ _ _ _ (s₁.setTop (mkF m 10 #[.val (.int u0), .val (.int u1), .val (.int u2), .val (.int u3), .val (.int (0 : Int32)), .val (.int (u1.toInt8.toInt32)), .unset, .unset, .unset, .unset] [(.int u2)]))
    refine own_st (fun _ k => XS.i2b X0.here hx rfl (hb hby at_10) rfl k) ?_
    show own_Go _ _ _ _ (s₁.setTop (mkF m 11 #[.val (.int u0), .val (.int u1), .val (.int u2), .val (.int u3), .val (.int (0 : Int32)), .val (.int (u1.toInt8.toInt32)), .unset, .unset, .unset, .unset] [(.int (u2.toInt8.toInt32))]))
    refine own_st (fun _ k => XS.istore X0.here hx rfl (hb hby at_11) rfl (l' := #[.val (.int u0), .val (.int u1), .val (.int u2), .val (.int u3), .val (.int (0 : Int32)), .val (.int (u1.toInt8.toInt32)), .val (.int (u2.toInt8.toInt32)), .unset, .unset, .unset]) rfl k) ?_
    show own_Go _ _ _ _ (s₁.setTop (mkF m 13 #[.val (.int u0), .val (.int u1), .val (.int u2), .val (.int u3), .val (.int (0 : Int32)), .val (.int (u1.toInt8.toInt32)), .val (.int (u2.toInt8.toInt32)), .unset, .unset, .unset] []))
    refine own_st (fun _ k => XS.iloadN X0.here hx rfl (hb hby at_13) rfl k) ?_
    show own_Go _ _ _ _ (s₁.setTop (mkF m 14 #[.val (.int u0), .val (.int u1), .val (.int u2), .val (.int u3), .val (.int (0 : Int32)), .val (.int (u1.toInt8.toInt32)), .val (.int (u2.toInt8.toInt32)), .unset, .unset, .unset] [(.int u3)]))
    refine own_st (fun _ k => XS.i2b X0.here hx rfl (hb hby at_14) rfl k) ?_
    show own_Go _ _ _ _ (s₁.setTop (mkF m 15 #[.val (.int u0), .val (.int u1), .val (.int u2), .val (.int u3), .val (.int (0 : Int32)), .val (.int (u1.toInt8.toInt32)), .val (.int (u2.toInt8.toInt32)), .unset, .unset, .unset] [(.int (u3.toInt8.toInt32))]))
    refine own_st (fun _ k => XS.istore X0.here hx rfl (hb hby at_15) rfl (l' := #[.val (.int u0), .val (.int u1), .val (.int u2), .val (.int u3), .val (.int (0 : Int32)), .val (.int (u1.toInt8.toInt32)), .val (.int (u2.toInt8.toInt32)), .val (.int (u3.toInt8.toInt32)), .unset, .unset]) rfl k) ?_
    show own_Go _ _ _ _ (s₁.setTop (mkF m 17 #[.val (.int u0), .val (.int u1), .val (.int u2), .val (.int u3), .val (.int (0 : Int32)), .val (.int (u1.toInt8.toInt32)), .val (.int (u2.toInt8.toInt32)), .val (.int (u3.toInt8.toInt32)), .unset, .unset] []))
    refine own_st (fun _ k => XS.iload X0.here hx rfl (hb hby at_17) rfl k) ?_
    show own_Go _ _ _ _ (s₁.setTop (mkF m 19 #[.val (.int u0), .val (.int u1), .val (.int u2), .val (.int u3), .val (.int (0 : Int32)), .val (.int (u1.toInt8.toInt32)), .val (.int (u2.toInt8.toInt32)), .val (.int (u3.toInt8.toInt32)), .unset, .unset] [(.int (0 : Int32))]))
    refine own_st (fun _ k => XS.ifNo X0.here hx rfl (hb hby at_19) rfl ((if0 _ _).trans (teq (by decide : ((0 : Int32) = (0 : Int32)))).2) k) ?_
    show own_Go _ _ _ _ (s₁.setTop (mkF m 22 #[.val (.int u0), .val (.int u1), .val (.int u2), .val (.int u3), .val (.int (0 : Int32)), .val (.int (u1.toInt8.toInt32)), .val (.int (u2.toInt8.toInt32)), .val (.int (u3.toInt8.toInt32)), .unset, .unset] []))
    refine own_st (fun _ k => XS.iconst X0.here hx rfl (hb hby at_22) k) ?_
    show own_Go _ _ _ _ (s₁.setTop (mkF m 23 #[.val (.int u0), .val (.int u1), .val (.int u2), .val (.int u3), .val (.int (0 : Int32)), .val (.int (u1.toInt8.toInt32)), .val (.int (u2.toInt8.toInt32)), .val (.int (u3.toInt8.toInt32)), .unset, .unset] [(.int (0 : Int32))]))
    obtain ⟨T38, h38, k38, X38, e38, E38, A38, st38⟩ := newP X0 hx hZ (hw _ (List.mem_of_getElem? (i := 0) rfl)) e0 (g := (mkF m 23 #[.val (.int u0), .val (.int u1), .val (.int u2), .val (.int u3), .val (.int (0 : Int32)), .val (.int (u1.toInt8.toInt32)), .val (.int (u2.toInt8.toInt32)), .val (.int (u3.toInt8.toInt32)), .unset, .unset] [(.int (0 : Int32))])) rfl (hb hby at_23) rfl (by decide : ¬ ((0 : Int32) < (0 : Int32))) (cap := 0) (by decide : ((0 : Int32)).toNatClampNeg ≤ 0) (by decide) (by decide) (by decide)
    obtain ⟨b38, g38⟩ : ∃ z, z = h0.size := ⟨_, rfl⟩
    rw [← g38] at A38 st38
    refine own_st st38 ?_
    have Z38 : n0 ≤ h38.size := Nat.le_trans Z0 E38.1
    have gnb38 : n0 ≤ b38 := Nat.le_trans Z0 (Nat.le_of_eq g38.symm)
    have gkb38 : h0.size ≤ b38 := Nat.le_trans K0.1 (Nat.le_of_eq g38.symm)
    have K38 : Keep h0 h38 [] := K0.ext E38
    have V38 : Arv Z h38 b38 k38 .byte (0 : Int32) [] (.int (0 : Int32)) := Arv.new A38 (by decide : ¬ ((0 : Int32) < (0 : Int32)))
    show own_Go _ _ _ _ (T38.setTop (mkF m 25 #[.val (.int u0), .val (.int u1), .val (.int u2), .val (.int u3), .val (.int (0 : Int32)), .val (.int (u1.toInt8.toInt32)), .val (.int (u2.toInt8.toInt32)), .val (.int (u3.toInt8.toInt32)), .unset, .unset] [(.ref b38)]))
    refine own_st (fun _ k => XS.astore X38.here hx rfl (hb hby at_25) rfl rfl (l' := #[.val (.int u0), .val (.int u1), .val (.int u2), .val (.int u3), .val (.int (0 : Int32)), .val (.int (u1.toInt8.toInt32)), .val (.int (u2.toInt8.toInt32)), .val (.int (u3.toInt8.toInt32)), .val (.ref b38), .unset]) rfl k) ?_
    show own_Go _ _ _ _ (T38.setTop (mkF m 27 #[.val (.int u0), .val (.int u1), .val (.int u2), .val (.int u3), .val (.int (0 : Int32)), .val (.int (u1.toInt8.toInt32)), .val (.int (u2.toInt8.toInt32)), .val (.int (u3.toInt8.toInt32)), .val (.ref b38), .unset] []))
    refine own_st (fun _ k => XS.goto X38.here hx rfl (pc0 := 27) (pc' := 93) rfl (hb hby at_27) (by decide) (by decide) k) ?_
    show own_Go _ _ _ _ (T38.setTop (mkF m 93 #[.val (.int u0), .val (.int u1), .val (.int u2), .val (.int u3), .val (.int (0 : Int32)), .val (.int (u1.toInt8.toInt32)), .val (.int (u2.toInt8.toInt32)), .val (.int (u3.toInt8.toInt32)), .val (.ref b38), .unset] []))
    refine own_st (fun _ k => XS.aload X38.here hx rfl (hb hby at_93) rfl rfl k) ?_
    show own_Go _ _ _ _ (T38.setTop (mkF m 95 #[.val (.int u0), .val (.int u1), .val (.int u2), .val (.int u3), .val (.int (0 : Int32)), .val (.int (u1.toInt8.toInt32)), .val (.int (u2.toInt8.toInt32)), .val (.int (u3.toInt8.toInt32)), .val (.ref b38), .unset] [(.ref b38)]))
    obtain ⟨_, _, ⟨T39, L39, k39, n39⟩, -, X39, ⟨Lc39, hQ39, l39, y39, z39⟩, st39⟩ := Jvm.LawKit.callS X38 hx (y := (⟨"quillvax/mllp/Mllp", "frame", "([B)[B"⟩ : MethodName)) hown (mvT hZ (hw _ (List.mem_of_getElem? (i := 1) rfl))) (mvT hZ (hw _ (List.mem_of_getElem? (i := 2) rfl))) (mvT hZ (hw _ (List.mem_of_getElem? (i := 3) rfl))) (mvT hZ (hw _ (List.mem_of_getElem? (i := 4) rfl))) (by decide) (backOf (W := 0) (rm1_0 l Z a0 hw [] b38 k38  h38 n0 Z38 V38) hZ (hw _ (List.mem_of_getElem? (i := 4) rfl)) (hw _ (List.mem_of_getElem? (i := 3) rfl)) (by decide) (by decide)) (g := (mkF m 95 #[.val (.int u0), .val (.int u1), .val (.int u2), .val (.int u3), .val (.int (0 : Int32)), .val (.int (u1.toInt8.toInt32)), .val (.int (u2.toInt8.toInt32)), .val (.int (u3.toInt8.toInt32)), .val (.ref b38), .unset] [(.ref b38)])) rfl (by rw [hml]; rfl) (argsL := [(.ref b38)]) (rest := []) (lenOf own_pd0 rfl) rfl (by show 2 * 0 + _ ≤ _; exact Nat.le_of_eq rfl) (hb hby at_95) (fun _ _ => ⟨rfl, e38, (by decide : 1 + 1 ≤ _), (by decide : 0 + 6 ≤ _)⟩)
    dsimp only [Pt.U, Pt.locs, Pt.cells, Pt.slots] at X39 l39 y39 z39 st39 hQ39
    subst l39 y39 z39
    obtain ⟨bq39, kq39, rfl, Nq39, Kq39, gq39, Vq39⟩ := hQ39
    have N39 := Fr.app N0 Nq39
    refine own_st st39 ?_
    have neb38_bq39 : b38 ≠ bq39 := Nat.ne_of_lt (Nat.lt_of_lt_of_le V38.lt gq39)
    have gnbq39 : n0 ≤ bq39 := Nat.le_trans Z38 gq39
    have gkbq39 : h0.size ≤ bq39 := Nat.le_trans K38.1 gq39
    have z39_V_b38 := V38.keep Kq39 nin0
    have Z39 : n0 ≤ T39.heap.size := Nat.le_trans Z38 Kq39.1
    have Kk39 : Keep h0 T39.heap [] := K38.trans Kq39 all0
    show own_Go _ _ _ _ (T39.setTop (mkF m 98 #[.val (.int u0), .val (.int u1), .val (.int u2), .val (.int u3), .val (.int (0 : Int32)), .val (.int (u1.toInt8.toInt32)), .val (.int (u2.toInt8.toInt32)), .val (.int (u3.toInt8.toInt32)), .val (.ref b38), .unset] [(.ref bq39)]))
    refine own_st (fun _ k => XS.astore X39.here hx rfl (hb hby at_98) rfl rfl (l' := #[.val (.int u0), .val (.int u1), .val (.int u2), .val (.int u3), .val (.int (0 : Int32)), .val (.int (u1.toInt8.toInt32)), .val (.int (u2.toInt8.toInt32)), .val (.int (u3.toInt8.toInt32)), .val (.ref b38), .val (.ref bq39)]) rfl k) ?_
    show own_Go _ _ _ _ (T39.setTop (mkF m 100 #[.val (.int u0), .val (.int u1), .val (.int u2), .val (.int u3), .val (.int (0 : Int32)), .val (.int (u1.toInt8.toInt32)), .val (.int (u2.toInt8.toInt32)), .val (.int (u3.toInt8.toInt32)), .val (.ref b38), .val (.ref bq39)] []))
    refine own_st (fun _ k => XS.aload X39.here hx rfl (hb hby at_100) rfl rfl k) ?_
    show own_Go _ _ _ _ (T39.setTop (mkF m 102 #[.val (.int u0), .val (.int u1), .val (.int u2), .val (.int u3), .val (.int (0 : Int32)), .val (.int (u1.toInt8.toInt32)), .val (.int (u2.toInt8.toInt32)), .val (.int (u3.toInt8.toInt32)), .val (.ref b38), .val (.ref bq39)] [(.ref bq39)]))
    refine own_st (fun _ k => XS.ifnullNo X39.here hx rfl (hb hby at_102) rfl k) ?_
    show own_Go _ _ _ _ (T39.setTop (mkF m 105 #[.val (.int u0), .val (.int u1), .val (.int u2), .val (.int u3), .val (.int (0 : Int32)), .val (.int (u1.toInt8.toInt32)), .val (.int (u2.toInt8.toInt32)), .val (.int (u3.toInt8.toInt32)), .val (.ref b38), .val (.ref bq39)] []))
    refine own_st (fun _ k => XS.aload X39.here hx rfl (hb hby at_105) rfl rfl k) ?_
    show own_Go _ _ _ _ (T39.setTop (mkF m 107 #[.val (.int u0), .val (.int u1), .val (.int u2), .val (.int u3), .val (.int (0 : Int32)), .val (.int (u1.toInt8.toInt32)), .val (.int (u2.toInt8.toInt32)), .val (.int (u3.toInt8.toInt32)), .val (.ref b38), .val (.ref bq39)] [(.ref bq39)]))
    obtain ⟨cl40, Ar40, -, Sz40, Nn40, -, -⟩ := id Vq39
    refine own_st (X39.arraylength hx Ar40.1 (State.isArrayOf_alike hZ.alike Ar40.2.1) (g := (mkF m 107 #[.val (.int u0), .val (.int u1), .val (.int u2), .val (.int u3), .val (.int (0 : Int32)), .val (.int (u1.toInt8.toInt32)), .val (.int (u2.toInt8.toInt32)), .val (.int (u3.toInt8.toInt32)), .val (.ref b38), .val (.ref bq39)] [(.ref bq39)])) rfl rfl (hb hby at_107)) ?_
    rw [len_of Sz40 Nn40]
    show own_Go _ _ _ _ (T39.setTop (mkF m 108 #[.val (.int u0), .val (.int u1), .val (.int u2), .val (.int u3), .val (.int (0 : Int32)), .val (.int (u1.toInt8.toInt32)), .val (.int (u2.toInt8.toInt32)), .val (.int (u3.toInt8.toInt32)), .val (.ref b38), .val (.ref bq39)] [(.int (3 : Int32))]))
    refine own_st (fun _ k => XS.iload X39.here hx rfl (hb hby at_108) rfl k) ?_
    show own_Go _ _ _ _ (T39.setTop (mkF m 110 #[.val (.int u0), .val (.int u1), .val (.int u2), .val (.int u3), .val (.int (0 : Int32)), .val (.int (u1.toInt8.toInt32)), .val (.int (u2.toInt8.toInt32)), .val (.int (u3.toInt8.toInt32)), .val (.ref b38), .val (.ref bq39)] [(.int (0 : Int32)), (.int (3 : Int32))]))
    refine own_st (fun _ k => XS.iconst X39.here hx rfl (hb hby at_110) k) ?_
    show own_Go _ _ _ _ (T39.setTop (mkF m 111 #[.val (.int u0), .val (.int u1), .val (.int u2), .val (.int u3), .val (.int (0 : Int32)), .val (.int (u1.toInt8.toInt32)), .val (.int (u2.toInt8.toInt32)), .val (.int (u3.toInt8.toInt32)), .val (.ref b38), .val (.ref bq39)] [(.int (3 : Int32)), (.int (0 : Int32)), (.int (3 : Int32))]))
    refine own_st (fun _ k => XS.iadd X39.here hx rfl (hb hby at_111) rfl k) ?_
    show own_Go _ _ _ _ (T39.setTop (mkF m 112 #[.val (.int u0), .val (.int u1), .val (.int u2), .val (.int u3), .val (.int (0 : Int32)), .val (.int (u1.toInt8.toInt32)), .val (.int (u2.toInt8.toInt32)), .val (.int (u3.toInt8.toInt32)), .val (.ref b38), .val (.ref bq39)] [(.int (3 : Int32)), (.int (3 : Int32))]))
    refine own_st (fun _ k => XS.icmpYes X39.here hx rfl (pc0 := 112) (pc' := 117) rfl (hb hby at_112) rfl (teq (by decide : ((3 : Int32) = (3 : Int32)))).1 (by decide) (by decide) k) ?_
    show own_Go _ _ _ _ (T39.setTop (mkF m 117 #[.val (.int u0), .val (.int u1), .val (.int u2), .val (.int u3), .val (.int (0 : Int32)), .val (.int (u1.toInt8.toInt32)), .val (.int (u2.toInt8.toInt32)), .val (.int (u3.toInt8.toInt32)), .val (.ref b38), .val (.ref bq39)] []))
    refine own_st (fun _ k => XS.aload X39.here hx rfl (hb hby at_117) rfl rfl k) ?_
    show own_Go _ _ _ _ (T39.setTop (mkF m 119 #[.val (.int u0), .val (.int u1), .val (.int u2), .val (.int u3), .val (.int (0 : Int32)), .val (.int (u1.toInt8.toInt32)), .val (.int (u2.toInt8.toInt32)), .val (.int (u3.toInt8.toInt32)), .val (.ref b38), .val (.ref bq39)] [(.ref bq39)]))
    refine own_st (fun _ k => XS.iconst X39.here hx rfl (hb hby at_119) k) ?_
    show own_Go _ _ _ _ (T39.setTop (mkF m 120 #[.val (.int u0), .val (.int u1), .val (.int u2), .val (.int u3), .val (.int (0 : Int32)), .val (.int (u1.toInt8.toInt32)), .val (.int (u2.toInt8.toInt32)), .val (.int (u3.toInt8.toInt32)), .val (.ref b38), .val (.ref bq39)] [(.int (0 : Int32)), (.ref bq39)]))
    obtain ⟨cl41, Ar41, -, Sz41, Nn41, Hs41, -⟩ := id Vq39
    have hin41 : ¬ ((0 : Int32) < 0 ∨ cl41.slots.size ≤ ((0 : Int32)).toNatClampNeg) := inb_of Sz41 ⟨(by decide : ¬ ((0 : Int32) < (0 : Int32))), (by decide : (0 : Int32) < (3 : Int32))⟩
    have hat41 : cl41.slots[((0 : Int32)).toNatClampNeg]? = some (.int (11 : Int32)) := Hs41.at hin41 rfl
    refine own_st (X39.baloadBytes hx (j := (0 : Int32)) (v := (.int (11 : Int32))) Ar41.1 (State.isArrayOf_alike hZ.alike Ar41.2.1) Ar41.2.2 hin41 hat41 (g := (mkF m 120 #[.val (.int u0), .val (.int u1), .val (.int u2), .val (.int u3), .val (.int (0 : Int32)), .val (.int (u1.toInt8.toInt32)), .val (.int (u2.toInt8.toInt32)), .val (.int (u3.toInt8.toInt32)), .val (.ref b38), .val (.ref bq39)] [(.int (0 : Int32)), (.ref bq39)])) rfl rfl (hb hby at_120)) ?_
    show own_Go _ _ _ _ (T39.setTop (mkF m 121 #[.val (.int u0), .val (.int u1), .val (.int u2), .val (.int u3), .val (.int (0 : Int32)), .val (.int (u1.toInt8.toInt32)), .val (.int (u2.toInt8.toInt32)), .val (.int (u3.toInt8.toInt32)), .val (.ref b38), .val (.ref bq39)] [(.int (11 : Int32))]))
    refine own_st (fun _ k => XS.bipush X39.here hx rfl (hb hby at_121) k) ?_
    show own_Go _ _ _ _ (T39.setTop (mkF m 123 #[.val (.int u0), .val (.int u1), .val (.int u2), .val (.int u3), .val (.int (0 : Int32)), .val (.int (u1.toInt8.toInt32)), .val (.int (u2.toInt8.toInt32)), .val (.int (u3.toInt8.toInt32)), .val (.ref b38), .val (.ref bq39)] [(.int (11 : Int32)), (.int (11 : Int32))]))
    refine own_st (fun _ k => XS.icmpYes X39.here hx rfl (pc0 := 123) (pc' := 128) rfl (hb hby at_123) rfl (teq (by decide : ((11 : Int32) = (11 : Int32)))).1 (by decide) (by decide) k) ?_
    show own_Go _ _ _ _ (T39.setTop (mkF m 128 #[.val (.int u0), .val (.int u1), .val (.int u2), .val (.int u3), .val (.int (0 : Int32)), .val (.int (u1.toInt8.toInt32)), .val (.int (u2.toInt8.toInt32)), .val (.int (u3.toInt8.toInt32)), .val (.ref b38), .val (.ref bq39)] []))
    refine own_st (fun _ k => XS.iload X39.here hx rfl (hb hby at_128) rfl k) ?_
    show own_Go _ _ _ _ (T39.setTop (mkF m 130 #[.val (.int u0), .val (.int u1), .val (.int u2), .val (.int u3), .val (.int (0 : Int32)), .val (.int (u1.toInt8.toInt32)), .val (.int (u2.toInt8.toInt32)), .val (.int (u3.toInt8.toInt32)), .val (.ref b38), .val (.ref bq39)] [(.int (0 : Int32))]))
    refine own_st (fun _ k => XS.iconst X39.here hx rfl (hb hby at_130) k) ?_
    show own_Go _ _ _ _ (T39.setTop (mkF m 131 #[.val (.int u0), .val (.int u1), .val (.int u2), .val (.int u3), .val (.int (0 : Int32)), .val (.int (u1.toInt8.toInt32)), .val (.int (u2.toInt8.toInt32)), .val (.int (u3.toInt8.toInt32)), .val (.ref b38), .val (.ref bq39)] [(.int (1 : Int32)), (.int (0 : Int32))]))
    refine own_st (fun _ k => XS.icmpYes X39.here hx rfl (pc0 := 131) (pc' := 145) rfl (hb hby at_131) rfl (tlt (by decide : ((0 : Int32) < (1 : Int32)))).1 (by decide) (by decide) k) ?_
    show own_Go _ _ _ _ (T39.setTop (mkF m 145 #[.val (.int u0), .val (.int u1), .val (.int u2), .val (.int u3), .val (.int (0 : Int32)), .val (.int (u1.toInt8.toInt32)), .val (.int (u2.toInt8.toInt32)), .val (.int (u3.toInt8.toInt32)), .val (.ref b38), .val (.ref bq39)] []))
    refine own_st (fun _ k => XS.iload X39.here hx rfl (hb hby at_145) rfl k) ?_
    show own_Go _ _ _ _ (T39.setTop (mkF m 147 #[.val (.int u0), .val (.int u1), .val (.int u2), .val (.int u3), .val (.int (0 : Int32)), .val (.int (u1.toInt8.toInt32)), .val (.int (u2.toInt8.toInt32)), .val (.int (u3.toInt8.toInt32)), .val (.ref b38), .val (.ref bq39)] [(.int (0 : Int32))]))
    refine own_st (fun _ k => XS.iconst X39.here hx rfl (hb hby at_147) k) ?_
    show own_Go _ _ _ _ (T39.setTop (mkF m 148 #[.val (.int u0), .val (.int u1), .val (.int u2), .val (.int u3), .val (.int (0 : Int32)), .val (.int (u1.toInt8.toInt32)), .val (.int (u2.toInt8.toInt32)), .val (.int (u3.toInt8.toInt32)), .val (.ref b38), .val (.ref bq39)] [(.int (2 : Int32)), (.int (0 : Int32))]))
    refine own_st (fun _ k => XS.icmpYes X39.here hx rfl (pc0 := 148) (pc' := 162) rfl (hb hby at_148) rfl (tlt (by decide : ((0 : Int32) < (2 : Int32)))).1 (by decide) (by decide) k) ?_
    show own_Go _ _ _ _ (T39.setTop (mkF m 162 #[.val (.int u0), .val (.int u1), .val (.int u2), .val (.int u3), .val (.int (0 : Int32)), .val (.int (u1.toInt8.toInt32)), .val (.int (u2.toInt8.toInt32)), .val (.int (u3.toInt8.toInt32)), .val (.ref b38), .val (.ref bq39)] []))
    refine own_st (fun _ k => XS.iload X39.here hx rfl (hb hby at_162) rfl k) ?_
    show own_Go _ _ _ _ (T39.setTop (mkF m 164 #[.val (.int u0), .val (.int u1), .val (.int u2), .val (.int u3), .val (.int (0 : Int32)), .val (.int (u1.toInt8.toInt32)), .val (.int (u2.toInt8.toInt32)), .val (.int (u3.toInt8.toInt32)), .val (.ref b38), .val (.ref bq39)] [(.int (0 : Int32))]))
    refine own_st (fun _ k => XS.iconst X39.here hx rfl (hb hby at_164) k) ?_
    show own_Go _ _ _ _ (T39.setTop (mkF m 165 #[.val (.int u0), .val (.int u1), .val (.int u2), .val (.int u3), .val (.int (0 : Int32)), .val (.int (u1.toInt8.toInt32)), .val (.int (u2.toInt8.toInt32)), .val (.int (u3.toInt8.toInt32)), .val (.ref b38), .val (.ref bq39)] [(.int (3 : Int32)), (.int (0 : Int32))]))
    refine own_st (fun _ k => XS.icmpYes X39.here hx rfl (pc0 := 165) (pc' := 179) rfl (hb hby at_165) rfl (tlt (by decide : ((0 : Int32) < (3 : Int32)))).1 (by decide) (by decide) k) ?_
    show own_Go _ _ _ _ (T39.setTop (mkF m 179 #[.val (.int u0), .val (.int u1), .val (.int u2), .val (.int u3), .val (.int (0 : Int32)), .val (.int (u1.toInt8.toInt32)), .val (.int (u2.toInt8.toInt32)), .val (.int (u3.toInt8.toInt32)), .val (.ref b38), .val (.ref bq39)] []))
    refine own_st (fun _ k => XS.aload X39.here hx rfl (hb hby at_179) rfl rfl k) ?_
    show own_Go _ _ _ _ (T39.setTop (mkF m 181 #[.val (.int u0), .val (.int u1), .val (.int u2), .val (.int u3), .val (.int (0 : Int32)), .val (.int (u1.toInt8.toInt32)), .val (.int (u2.toInt8.toInt32)), .val (.int (u3.toInt8.toInt32)), .val (.ref b38), .val (.ref bq39)] [(.ref bq39)]))
    refine own_st (fun _ k => XS.iload X39.here hx rfl (hb hby at_181) rfl k) ?_
    show own_Go _ _ _ _ (T39.setTop (mkF m 183 #[.val (.int u0), .val (.int u1), .val (.int u2), .val (.int u3), .val (.int (0 : Int32)), .val (.int (u1.toInt8.toInt32)), .val (.int (u2.toInt8.toInt32)), .val (.int (u3.toInt8.toInt32)), .val (.ref b38), .val (.ref bq39)] [(.int (0 : Int32)), (.ref bq39)]))
    refine own_st (fun _ k => XS.iconst X39.here hx rfl (hb hby at_183) k) ?_
    show own_Go _ _ _ _ (T39.setTop (mkF m 184 #[.val (.int u0), .val (.int u1), .val (.int u2), .val (.int u3), .val (.int (0 : Int32)), .val (.int (u1.toInt8.toInt32)), .val (.int (u2.toInt8.toInt32)), .val (.int (u3.toInt8.toInt32)), .val (.ref b38), .val (.ref bq39)] [(.int (1 : Int32)), (.int (0 : Int32)), (.ref bq39)]))
    refine own_st (fun _ k => XS.iadd X39.here hx rfl (hb hby at_184) rfl k) ?_
    show own_Go _ _ _ _ (T39.setTop (mkF m 185 #[.val (.int u0), .val (.int u1), .val (.int u2), .val (.int u3), .val (.int (0 : Int32)), .val (.int (u1.toInt8.toInt32)), .val (.int (u2.toInt8.toInt32)), .val (.int (u3.toInt8.toInt32)), .val (.ref b38), .val (.ref bq39)] [(.int (1 : Int32)), (.ref bq39)]))
    obtain ⟨cl42, Ar42, -, Sz42, Nn42, Hs42, -⟩ := id Vq39
    have hin42 : ¬ ((1 : Int32) < 0 ∨ cl42.slots.size ≤ ((1 : Int32)).toNatClampNeg) := inb_of Sz42 ⟨(by decide : ¬ ((1 : Int32) < (0 : Int32))), (by decide : (1 : Int32) < (3 : Int32))⟩
    have hat42 : cl42.slots[((1 : Int32)).toNatClampNeg]? = some (.int (28 : Int32)) := Hs42.at hin42 rfl
    refine own_st (X39.baloadBytes hx (j := (1 : Int32)) (v := (.int (28 : Int32))) Ar42.1 (State.isArrayOf_alike hZ.alike Ar42.2.1) Ar42.2.2 hin42 hat42 (g := (mkF m 185 #[.val (.int u0), .val (.int u1), .val (.int u2), .val (.int u3), .val (.int (0 : Int32)), .val (.int (u1.toInt8.toInt32)), .val (.int (u2.toInt8.toInt32)), .val (.int (u3.toInt8.toInt32)), .val (.ref b38), .val (.ref bq39)] [(.int (1 : Int32)), (.ref bq39)])) rfl rfl (hb hby at_185)) ?_
    show own_Go _ _ _ _ (T39.setTop (mkF m 186 #[.val (.int u0), .val (.int u1), .val (.int u2), .val (.int u3), .val (.int (0 : Int32)), .val (.int (u1.toInt8.toInt32)), .val (.int (u2.toInt8.toInt32)), .val (.int (u3.toInt8.toInt32)), .val (.ref b38), .val (.ref bq39)] [(.int (28 : Int32))]))
    refine own_st (fun _ k => XS.bipush X39.here hx rfl (hb hby at_186) k) ?_
    show own_Go _ _ _ _ (T39.setTop (mkF m 188 #[.val (.int u0), .val (.int u1), .val (.int u2), .val (.int u3), .val (.int (0 : Int32)), .val (.int (u1.toInt8.toInt32)), .val (.int (u2.toInt8.toInt32)), .val (.int (u3.toInt8.toInt32)), .val (.ref b38), .val (.ref bq39)] [(.int (28 : Int32)), (.int (28 : Int32))]))
    refine own_st (fun _ k => XS.icmpNo X39.here hx rfl (hb hby at_188) rfl (teq (by decide : ((28 : Int32) = (28 : Int32)))).2 k) ?_
    show own_Go _ _ _ _ (T39.setTop (mkF m 191 #[.val (.int u0), .val (.int u1), .val (.int u2), .val (.int u3), .val (.int (0 : Int32)), .val (.int (u1.toInt8.toInt32)), .val (.int (u2.toInt8.toInt32)), .val (.int (u3.toInt8.toInt32)), .val (.ref b38), .val (.ref bq39)] []))
    refine own_st (fun _ k => XS.aload X39.here hx rfl (hb hby at_191) rfl rfl k) ?_
    show own_Go _ _ _ _ (T39.setTop (mkF m 193 #[.val (.int u0), .val (.int u1), .val (.int u2), .val (.int u3), .val (.int (0 : Int32)), .val (.int (u1.toInt8.toInt32)), .val (.int (u2.toInt8.toInt32)), .val (.int (u3.toInt8.toInt32)), .val (.ref b38), .val (.ref bq39)] [(.ref bq39)]))
    refine own_st (fun _ k => XS.iload X39.here hx rfl (hb hby at_193) rfl k) ?_
    show own_Go _ _ _ _ (T39.setTop (mkF m 195 #[.val (.int u0), .val (.int u1), .val (.int u2), .val (.int u3), .val (.int (0 : Int32)), .val (.int (u1.toInt8.toInt32)), .val (.int (u2.toInt8.toInt32)), .val (.int (u3.toInt8.toInt32)), .val (.ref b38), .val (.ref bq39)] [(.int (0 : Int32)), (.ref bq39)]))
    refine own_st (fun _ k => XS.iconst X39.here hx rfl (hb hby at_195) k) ?_
    show own_Go _ _ _ _ (T39.setTop (mkF m 196 #[.val (.int u0), .val (.int u1), .val (.int u2), .val (.int u3), .val (.int (0 : Int32)), .val (.int (u1.toInt8.toInt32)), .val (.int (u2.toInt8.toInt32)), .val (.int (u3.toInt8.toInt32)), .val (.ref b38), .val (.ref bq39)] [(.int (2 : Int32)), (.int (0 : Int32)), (.ref bq39)]))
    refine own_st (fun _ k => XS.iadd X39.here hx rfl (hb hby at_196) rfl k) ?_
    show own_Go _ _ _ _ (T39.setTop (mkF m 197 #[.val (.int u0), .val (.int u1), .val (.int u2), .val (.int u3), .val (.int (0 : Int32)), .val (.int (u1.toInt8.toInt32)), .val (.int (u2.toInt8.toInt32)), .val (.int (u3.toInt8.toInt32)), .val (.ref b38), .val (.ref bq39)] [(.int (2 : Int32)), (.ref bq39)]))
    obtain ⟨cl43, Ar43, -, Sz43, Nn43, Hs43, -⟩ := id Vq39
    have hin43 : ¬ ((2 : Int32) < 0 ∨ cl43.slots.size ≤ ((2 : Int32)).toNatClampNeg) := inb_of Sz43 ⟨(by decide : ¬ ((2 : Int32) < (0 : Int32))), (by decide : (2 : Int32) < (3 : Int32))⟩
    have hat43 : cl43.slots[((2 : Int32)).toNatClampNeg]? = some (.int (13 : Int32)) := Hs43.at hin43 rfl
    refine own_st (X39.baloadBytes hx (j := (2 : Int32)) (v := (.int (13 : Int32))) Ar43.1 (State.isArrayOf_alike hZ.alike Ar43.2.1) Ar43.2.2 hin43 hat43 (g := (mkF m 197 #[.val (.int u0), .val (.int u1), .val (.int u2), .val (.int u3), .val (.int (0 : Int32)), .val (.int (u1.toInt8.toInt32)), .val (.int (u2.toInt8.toInt32)), .val (.int (u3.toInt8.toInt32)), .val (.ref b38), .val (.ref bq39)] [(.int (2 : Int32)), (.ref bq39)])) rfl rfl (hb hby at_197)) ?_
    show own_Go _ _ _ _ (T39.setTop (mkF m 198 #[.val (.int u0), .val (.int u1), .val (.int u2), .val (.int u3), .val (.int (0 : Int32)), .val (.int (u1.toInt8.toInt32)), .val (.int (u2.toInt8.toInt32)), .val (.int (u3.toInt8.toInt32)), .val (.ref b38), .val (.ref bq39)] [(.int (13 : Int32))]))
    refine own_st (fun _ k => XS.bipush X39.here hx rfl (hb hby at_198) k) ?_
    show own_Go _ _ _ _ (T39.setTop (mkF m 200 #[.val (.int u0), .val (.int u1), .val (.int u2), .val (.int u3), .val (.int (0 : Int32)), .val (.int (u1.toInt8.toInt32)), .val (.int (u2.toInt8.toInt32)), .val (.int (u3.toInt8.toInt32)), .val (.ref b38), .val (.ref bq39)] [(.int (13 : Int32)), (.int (13 : Int32))]))
    refine own_st (fun _ k => XS.icmpYes X39.here hx rfl (pc0 := 200) (pc' := 205) rfl (hb hby at_200) rfl (teq (by decide : ((13 : Int32) = (13 : Int32)))).1 (by decide) (by decide) k) ?_
    show own_Go _ _ _ _ (T39.setTop (mkF m 205 #[.val (.int u0), .val (.int u1), .val (.int u2), .val (.int u3), .val (.int (0 : Int32)), .val (.int (u1.toInt8.toInt32)), .val (.int (u2.toInt8.toInt32)), .val (.int (u3.toInt8.toInt32)), .val (.ref b38), .val (.ref bq39)] []))
    refine own_st (fun _ k => XS.aload X39.here hx rfl (hb hby at_205) rfl rfl k) ?_
    show own_Go _ _ _ _ (T39.setTop (mkF m 207 #[.val (.int u0), .val (.int u1), .val (.int u2), .val (.int u3), .val (.int (0 : Int32)), .val (.int (u1.toInt8.toInt32)), .val (.int (u2.toInt8.toInt32)), .val (.int (u3.toInt8.toInt32)), .val (.ref b38), .val (.ref bq39)] [(.ref b38)]))
    obtain ⟨cl44, Ar44, -, Sz44, Nn44, -, -⟩ := id z39_V_b38
    refine own_st (X39.arraylength hx Ar44.1 (State.isArrayOf_alike hZ.alike Ar44.2.1) (g := (mkF m 207 #[.val (.int u0), .val (.int u1), .val (.int u2), .val (.int u3), .val (.int (0 : Int32)), .val (.int (u1.toInt8.toInt32)), .val (.int (u2.toInt8.toInt32)), .val (.int (u3.toInt8.toInt32)), .val (.ref b38), .val (.ref bq39)] [(.ref b38)])) rfl rfl (hb hby at_207)) ?_
    rw [len_of Sz44 Nn44]
    show own_Go _ _ _ _ (T39.setTop (mkF m 208 #[.val (.int u0), .val (.int u1), .val (.int u2), .val (.int u3), .val (.int (0 : Int32)), .val (.int (u1.toInt8.toInt32)), .val (.int (u2.toInt8.toInt32)), .val (.int (u3.toInt8.toInt32)), .val (.ref b38), .val (.ref bq39)] [(.int (0 : Int32))]))
    refine own_st (fun _ k => XS.iload X39.here hx rfl (hb hby at_208) rfl k) ?_
    show own_Go _ _ _ _ (T39.setTop (mkF m 210 #[.val (.int u0), .val (.int u1), .val (.int u2), .val (.int u3), .val (.int (0 : Int32)), .val (.int (u1.toInt8.toInt32)), .val (.int (u2.toInt8.toInt32)), .val (.int (u3.toInt8.toInt32)), .val (.ref b38), .val (.ref bq39)] [(.int (0 : Int32)), (.int (0 : Int32))]))
    refine own_st (fun _ k => XS.icmpYes X39.here hx rfl (pc0 := 210) (pc' := 215) rfl (hb hby at_210) rfl (teq (by decide : ((0 : Int32) = (0 : Int32)))).1 (by decide) (by decide) k) ?_
    show own_Go _ _ _ _ (T39.setTop (mkF m 215 #[.val (.int u0), .val (.int u1), .val (.int u2), .val (.int u3), .val (.int (0 : Int32)), .val (.int (u1.toInt8.toInt32)), .val (.int (u2.toInt8.toInt32)), .val (.int (u3.toInt8.toInt32)), .val (.ref b38), .val (.ref bq39)] []))
    refine own_st (fun _ k => XS.iload X39.here hx rfl (hb hby at_215) rfl k) ?_
    show own_Go _ _ _ _ (T39.setTop (mkF m 217 #[.val (.int u0), .val (.int u1), .val (.int u2), .val (.int u3), .val (.int (0 : Int32)), .val (.int (u1.toInt8.toInt32)), .val (.int (u2.toInt8.toInt32)), .val (.int (u3.toInt8.toInt32)), .val (.ref b38), .val (.ref bq39)] [(.int (0 : Int32))]))
    refine own_st (fun _ k => XS.iconst X39.here hx rfl (hb hby at_217) k) ?_
    show own_Go _ _ _ _ (T39.setTop (mkF m 218 #[.val (.int u0), .val (.int u1), .val (.int u2), .val (.int u3), .val (.int (0 : Int32)), .val (.int (u1.toInt8.toInt32)), .val (.int (u2.toInt8.toInt32)), .val (.int (u3.toInt8.toInt32)), .val (.ref b38), .val (.ref bq39)] [(.int (1 : Int32)), (.int (0 : Int32))]))
    refine own_st (fun _ k => XS.icmpYes X39.here hx rfl (pc0 := 218) (pc' := 232) rfl (hb hby at_218) rfl (tlt (by decide : ((0 : Int32) < (1 : Int32)))).1 (by decide) (by decide) k) ?_
    show own_Go _ _ _ _ (T39.setTop (mkF m 232 #[.val (.int u0), .val (.int u1), .val (.int u2), .val (.int u3), .val (.int (0 : Int32)), .val (.int (u1.toInt8.toInt32)), .val (.int (u2.toInt8.toInt32)), .val (.int (u3.toInt8.toInt32)), .val (.ref b38), .val (.ref bq39)] []))
    refine own_st (fun _ k => XS.iload X39.here hx rfl (hb hby at_232) rfl k) ?_
    show own_Go _ _ _ _ (T39.setTop (mkF m 234 #[.val (.int u0), .val (.int u1), .val (.int u2), .val (.int u3), .val (.int (0 : Int32)), .val (.int (u1.toInt8.toInt32)), .val (.int (u2.toInt8.toInt32)), .val (.int (u3.toInt8.toInt32)), .val (.ref b38), .val (.ref bq39)] [(.int (0 : Int32))]))
    refine own_st (fun _ k => XS.iconst X39.here hx rfl (hb hby at_234) k) ?_
    show own_Go _ _ _ _ (T39.setTop (mkF m 235 #[.val (.int u0), .val (.int u1), .val (.int u2), .val (.int u3), .val (.int (0 : Int32)), .val (.int (u1.toInt8.toInt32)), .val (.int (u2.toInt8.toInt32)), .val (.int (u3.toInt8.toInt32)), .val (.ref b38), .val (.ref bq39)] [(.int (2 : Int32)), (.int (0 : Int32))]))
    refine own_st (fun _ k => XS.icmpYes X39.here hx rfl (pc0 := 235) (pc' := 249) rfl (hb hby at_235) rfl (tlt (by decide : ((0 : Int32) < (2 : Int32)))).1 (by decide) (by decide) k) ?_
    show own_Go _ _ _ _ (T39.setTop (mkF m 249 #[.val (.int u0), .val (.int u1), .val (.int u2), .val (.int u3), .val (.int (0 : Int32)), .val (.int (u1.toInt8.toInt32)), .val (.int (u2.toInt8.toInt32)), .val (.int (u3.toInt8.toInt32)), .val (.ref b38), .val (.ref bq39)] []))
    refine own_st (fun _ k => XS.iload X39.here hx rfl (hb hby at_249) rfl k) ?_
    show own_Go _ _ _ _ (T39.setTop (mkF m 251 #[.val (.int u0), .val (.int u1), .val (.int u2), .val (.int u3), .val (.int (0 : Int32)), .val (.int (u1.toInt8.toInt32)), .val (.int (u2.toInt8.toInt32)), .val (.int (u3.toInt8.toInt32)), .val (.ref b38), .val (.ref bq39)] [(.int (0 : Int32))]))
    refine own_st (fun _ k => XS.iconst X39.here hx rfl (hb hby at_251) k) ?_
    show own_Go _ _ _ _ (T39.setTop (mkF m 252 #[.val (.int u0), .val (.int u1), .val (.int u2), .val (.int u3), .val (.int (0 : Int32)), .val (.int (u1.toInt8.toInt32)), .val (.int (u2.toInt8.toInt32)), .val (.int (u3.toInt8.toInt32)), .val (.ref b38), .val (.ref bq39)] [(.int (3 : Int32)), (.int (0 : Int32))]))
    refine own_st (fun _ k => XS.icmpYes X39.here hx rfl (pc0 := 252) (pc' := 266) rfl (hb hby at_252) rfl (tlt (by decide : ((0 : Int32) < (3 : Int32)))).1 (by decide) (by decide) k) ?_
    show own_Go _ _ _ _ (T39.setTop (mkF m 266 #[.val (.int u0), .val (.int u1), .val (.int u2), .val (.int u3), .val (.int (0 : Int32)), .val (.int (u1.toInt8.toInt32)), .val (.int (u2.toInt8.toInt32)), .val (.int (u3.toInt8.toInt32)), .val (.ref b38), .val (.ref bq39)] []))
    refine own_st (fun _ k => XS.iconst X39.here hx rfl (hb hby at_266) k) ?_
    show own_Go _ _ _ _ (T39.setTop (mkF m 267 #[.val (.int u0), .val (.int u1), .val (.int u2), .val (.int u3), .val (.int (0 : Int32)), .val (.int (u1.toInt8.toInt32)), .val (.int (u2.toInt8.toInt32)), .val (.int (u3.toInt8.toInt32)), .val (.ref b38), .val (.ref bq39)] [(.int (1 : Int32))]))
    obtain ⟨fs, hr, hrun, hended, hW, hsame⟩ := X39.leave (v := some (.int (1 : Int32))) (fun h => by rw [Bd.returns] at h; cases h)
    refine own_out (retN X39 hx (t := .boolean) Bd.returns (by simp) (hb hby at_267) hr) ⟨hrun, hended, _, _, rfl, ?_, ⟨_, rfl⟩, hW, hsame.mono (by decide) (by decide)⟩
    show Q0 Z u0 u1 u2 u3 h0 n0 _ T39.heap _
    exact ⟨rfl, N39⟩
  · skip
    rw [hs37]
    show own_Go _ _ _ _ (s₁.setTop (mkF m 5 #[.val (.int u0), .val (.int u1), .val (.int u2), .val (.int u3), .val (.int (1 : Int32)), .unset, .unset, .unset, .unset, .unset] []))
    refine own_st (fun _ k => XS.iloadN X0.here hx rfl (hb hby at_5) rfl k) ?_
    show own_Go _ _ _ _ (s₁.setTop (mkF m 6 #[.val (.int u0), .val (.int u1), .val (.int u2), .val (.int u3), .val (.int (1 : Int32)), .unset, .unset, .unset, .unset, .unset] [(.int u1)]))
    refine own_st (fun _ k => XS.i2b X0.here hx rfl (hb hby at_6) rfl k) ?_
    show own_Go _ _ _ _ (s₁.setTop (mkF m 7 #[.val (.int u0), .val (.int u1), .val (.int u2), .val (.int u3), .val (.int (1 : Int32)), .unset, .unset, .unset, .unset, .unset] [(.int (u1.toInt8.toInt32))]))
    refine own_st (fun _ k => XS.istore X0.here hx rfl (hb hby at_7) rfl (l' := #[.val (.int u0), .val (.int u1), .val (.int u2), .val (.int u3), .val (.int (1 : Int32)), .val (.int (u1.toInt8.toInt32)), .unset, .unset, .unset, .unset]) rfl k) ?_
    show own_Go _ _ _ _ (s₁.setTop (mkF m 9 #[.val (.int u0), .val (.int u1), .val (.int u2), .val (.int u3), .val (.int (1 : Int32)), .val (.int (u1.toInt8.toInt32)), .unset, .unset, .unset, .unset] []))
    refine own_st (fun _ k => XS.iloadN X0.here hx rfl (hb hby at_9) rfl k) ?_
    show own_Go _ _ _ _ (s₁.setTop (mkF m 10 #[.val (.int u0), .val (.int u1), .val (.int u2), .val (.int u3), .val (.int (1 : Int32)), .val (.int (u1.toInt8.toInt32)), .unset, .unset, .unset, .unset] [(.int u2)]))
    refine own_st (fun _ k => XS.i2b X0.here hx rfl (hb hby at_10) rfl k) ?_
    show own_Go _ _ _ _ (s₁.setTop (mkF m 11 #[.val (.int u0), .val (.int u1), .val (.int u2), .val (.int u3), .val (.int (1 : Int32)), .val (.int (u1.toInt8.toInt32)), .unset, .unset, .unset, .unset] [(.int (u2.toInt8.toInt32))]))
    refine own_st (fun _ k => XS.istore X0.here hx rfl (hb hby at_11) rfl (l' := #[.val (.int u0), .val (.int u1), .val (.int u2), .val (.int u3), .val (.int (1 : Int32)), .val (.int (u1.toInt8.toInt32)), .val (.int (u2.toInt8.toInt32)), .unset, .unset, .unset]) rfl k) ?_
    show own_Go _ _ _ _ (s₁.setTop (mkF m 13 #[.val (.int u0), .val (.int u1), .val (.int u2), .val (.int u3), .val (.int (1 : Int32)), .val (.int (u1.toInt8.toInt32)), .val (.int (u2.toInt8.toInt32)), .unset, .unset, .unset] []))
    refine own_st (fun _ k => XS.iloadN X0.here hx rfl (hb hby at_13) rfl k) ?_
    show own_Go _ _ _ _ (s₁.setTop (mkF m 14 #[.val (.int u0), .val (.int u1), .val (.int u2), .val (.int u3), .val (.int (1 : Int32)), .val (.int (u1.toInt8.toInt32)), .val (.int (u2.toInt8.toInt32)), .unset, .unset, .unset] [(.int u3)]))
    refine own_st (fun _ k => XS.i2b X0.here hx rfl (hb hby at_14) rfl k) ?_
    show own_Go _ _ _ _ (s₁.setTop (mkF m 15 #[.val (.int u0), .val (.int u1), .val (.int u2), .val (.int u3), .val (.int (1 : Int32)), .val (.int (u1.toInt8.toInt32)), .val (.int (u2.toInt8.toInt32)), .unset, .unset, .unset] [(.int (u3.toInt8.toInt32))]))
    refine own_st (fun _ k => XS.istore X0.here hx rfl (hb hby at_15) rfl (l' := #[.val (.int u0), .val (.int u1), .val (.int u2), .val (.int u3), .val (.int (1 : Int32)), .val (.int (u1.toInt8.toInt32)), .val (.int (u2.toInt8.toInt32)), .val (.int (u3.toInt8.toInt32)), .unset, .unset]) rfl k) ?_
    show own_Go _ _ _ _ (s₁.setTop (mkF m 17 #[.val (.int u0), .val (.int u1), .val (.int u2), .val (.int u3), .val (.int (1 : Int32)), .val (.int (u1.toInt8.toInt32)), .val (.int (u2.toInt8.toInt32)), .val (.int (u3.toInt8.toInt32)), .unset, .unset] []))
    refine own_st (fun _ k => XS.iload X0.here hx rfl (hb hby at_17) rfl k) ?_
    show own_Go _ _ _ _ (s₁.setTop (mkF m 19 #[.val (.int u0), .val (.int u1), .val (.int u2), .val (.int u3), .val (.int (1 : Int32)), .val (.int (u1.toInt8.toInt32)), .val (.int (u2.toInt8.toInt32)), .val (.int (u3.toInt8.toInt32)), .unset, .unset] [(.int (1 : Int32))]))
    refine own_st (fun _ k => XS.ifYes X0.here hx rfl (pc0 := 19) (pc' := 30) rfl (hb hby at_19) rfl ((if0 _ _).trans (feq (by decide : ¬ ((1 : Int32) = (0 : Int32)))).2) (by decide) (by decide) k) ?_
    show own_Go _ _ _ _ (s₁.setTop (mkF m 30 #[.val (.int u0), .val (.int u1), .val (.int u2), .val (.int u3), .val (.int (1 : Int32)), .val (.int (u1.toInt8.toInt32)), .val (.int (u2.toInt8.toInt32)), .val (.int (u3.toInt8.toInt32)), .unset, .unset] []))
    refine own_st (fun _ k => XS.iload X0.here hx rfl (hb hby at_30) rfl k) ?_
    show own_Go _ _ _ _ (s₁.setTop (mkF m 32 #[.val (.int u0), .val (.int u1), .val (.int u2), .val (.int u3), .val (.int (1 : Int32)), .val (.int (u1.toInt8.toInt32)), .val (.int (u2.toInt8.toInt32)), .val (.int (u3.toInt8.toInt32)), .unset, .unset] [(.int (1 : Int32))]))
    refine own_st (fun _ k => XS.iconst X0.here hx rfl (hb hby at_32) k) ?_
    show own_Go _ _ _ _ (s₁.setTop (mkF m 33 #[.val (.int u0), .val (.int u1), .val (.int u2), .val (.int u3), .val (.int (1 : Int32)), .val (.int (u1.toInt8.toInt32)), .val (.int (u2.toInt8.toInt32)), .val (.int (u3.toInt8.toInt32)), .unset, .unset] [(.int (1 : Int32)), (.int (1 : Int32))]))
    refine own_st (fun _ k => XS.icmpNo X0.here hx rfl (hb hby at_33) rfl (teq (by decide : ((1 : Int32) = (1 : Int32)))).2 k) ?_
    show own_Go _ _ _ _ (s₁.setTop (mkF m 36 #[.val (.int u0), .val (.int u1), .val (.int u2), .val (.int u3), .val (.int (1 : Int32)), .val (.int (u1.toInt8.toInt32)), .val (.int (u2.toInt8.toInt32)), .val (.int (u3.toInt8.toInt32)), .unset, .unset] []))
    refine own_st (fun _ k => XS.iconst X0.here hx rfl (hb hby at_36) k) ?_
    show own_Go _ _ _ _ (s₁.setTop (mkF m 37 #[.val (.int u0), .val (.int u1), .val (.int u2), .val (.int u3), .val (.int (1 : Int32)), .val (.int (u1.toInt8.toInt32)), .val (.int (u2.toInt8.toInt32)), .val (.int (u3.toInt8.toInt32)), .unset, .unset] [(.int (1 : Int32))]))
    obtain ⟨T45, h45, k45, X45, e45, E45, A45, st45⟩ := newP X0 hx hZ (hw _ (List.mem_of_getElem? (i := 0) rfl)) e0 (g := (mkF m 37 #[.val (.int u0), .val (.int u1), .val (.int u2), .val (.int u3), .val (.int (1 : Int32)), .val (.int (u1.toInt8.toInt32)), .val (.int (u2.toInt8.toInt32)), .val (.int (u3.toInt8.toInt32)), .unset, .unset] [(.int (1 : Int32))])) rfl (hb hby at_37) rfl (by decide : ¬ ((1 : Int32) < (0 : Int32))) (cap := 1) (by decide : ((1 : Int32)).toNatClampNeg ≤ 1) (by decide) (by decide) (by decide)
    obtain ⟨b45, g45⟩ : ∃ z, z = h0.size := ⟨_, rfl⟩
    rw [← g45] at A45 st45
    refine own_st st45 ?_
    have Z45 : n0 ≤ h45.size := Nat.le_trans Z0 E45.1
    have gnb45 : n0 ≤ b45 := Nat.le_trans Z0 (Nat.le_of_eq g45.symm)
    have gkb45 : h0.size ≤ b45 := Nat.le_trans K0.1 (Nat.le_of_eq g45.symm)
    have K45 : Keep h0 h45 [] := K0.ext E45
    have V45 : Arv Z h45 b45 k45 .byte (1 : Int32) [(.int (0 : Int32))] (.int (0 : Int32)) := (Arv.new A45 (by decide : ¬ ((1 : Int32) < (0 : Int32)))).pad (pad_rep [] (.int (0 : Int32)) 1)
    show own_Go _ _ _ _ (T45.setTop (mkF m 39 #[.val (.int u0), .val (.int u1), .val (.int u2), .val (.int u3), .val (.int (1 : Int32)), .val (.int (u1.toInt8.toInt32)), .val (.int (u2.toInt8.toInt32)), .val (.int (u3.toInt8.toInt32)), .unset, .unset] [(.ref b45)]))
    refine own_st (fun _ k => XS.dup X45.here hx rfl (hb hby at_39) rfl rfl k) ?_
    show own_Go _ _ _ _ (T45.setTop (mkF m 40 #[.val (.int u0), .val (.int u1), .val (.int u2), .val (.int u3), .val (.int (1 : Int32)), .val (.int (u1.toInt8.toInt32)), .val (.int (u2.toInt8.toInt32)), .val (.int (u3.toInt8.toInt32)), .unset, .unset] [(.ref b45), (.ref b45)]))
    refine own_st (fun _ k => XS.iconst X45.here hx rfl (hb hby at_40) k) ?_
    show own_Go _ _ _ _ (T45.setTop (mkF m 41 #[.val (.int u0), .val (.int u1), .val (.int u2), .val (.int u3), .val (.int (1 : Int32)), .val (.int (u1.toInt8.toInt32)), .val (.int (u2.toInt8.toInt32)), .val (.int (u3.toInt8.toInt32)), .unset, .unset] [(.int (0 : Int32)), (.ref b45), (.ref b45)]))
    refine own_st (fun _ k => XS.iload X45.here hx rfl (hb hby at_41) rfl k) ?_
    show own_Go _ _ _ _ (T45.setTop (mkF m 43 #[.val (.int u0), .val (.int u1), .val (.int u2), .val (.int u3), .val (.int (1 : Int32)), .val (.int (u1.toInt8.toInt32)), .val (.int (u2.toInt8.toInt32)), .val (.int (u3.toInt8.toInt32)), .unset, .unset] [(.int (u1.toInt8.toInt32)), (.int (0 : Int32)), (.ref b45), (.ref b45)]))
    obtain ⟨cl46, Ar46, Kd46, Sz46, Nn46, Hs46, Gs46⟩ := id V45
    obtain ⟨T46, h46, X46, e46, W46, st46⟩ := stB X45 hx hZ e45 Ar46 (j := (0 : Int32)) (inb_of Sz46 ⟨(by decide : ¬ ((0 : Int32) < (0 : Int32))), (by decide : (0 : Int32) < (1 : Int32))⟩) (g := (mkF m 43 #[.val (.int u0), .val (.int u1), .val (.int u2), .val (.int u3), .val (.int (1 : Int32)), .val (.int (u1.toInt8.toInt32)), .val (.int (u2.toInt8.toInt32)), .val (.int (u3.toInt8.toInt32)), .unset, .unset] [(.int (u1.toInt8.toInt32)), (.int (0 : Int32)), (.ref b45), (.ref b45)])) rfl rfl (hb hby at_43)
    refine own_st st46 ?_
    have V46 := Arv.set Ar46 Kd46 Sz46 Nn46 Hs46 Gs46 (fits_nar_byte _) W46 0 rfl (Nat.le_of_ble_eq_true rfl)
    have V46' : Arv Z h46 b45 k45 .byte (1 : Int32) [(.int (u1.toInt8.toInt32))] (.int (0 : Int32)) := by have q := V46; rw [own_narB] at q; exact q
    have Z46 : n0 ≤ h46.size := Nat.le_trans Z45 (Nat.le_of_eq W46.size.symm)
    have N46 := Fr.snoc X46 N0 gnb45
    have K46 : Keep h0 h46 [] := K45.wr W46 (Or.inr gkb45)
    show own_Go _ _ _ _ (T46.setTop (mkF m 44 #[.val (.int u0), .val (.int u1), .val (.int u2), .val (.int u3), .val (.int (1 : Int32)), .val (.int (u1.toInt8.toInt32)), .val (.int (u2.toInt8.toInt32)), .val (.int (u3.toInt8.toInt32)), .unset, .unset] [(.ref b45)]))
    refine own_st (fun _ k => XS.astore X46.here hx rfl (hb hby at_44) rfl rfl (l' := #[.val (.int u0), .val (.int u1), .val (.int u2), .val (.int u3), .val (.int (1 : Int32)), .val (.int (u1.toInt8.toInt32)), .val (.int (u2.toInt8.toInt32)), .val (.int (u3.toInt8.toInt32)), .val (.ref b45), .unset]) rfl k) ?_
    show own_Go _ _ _ _ (T46.setTop (mkF m 46 #[.val (.int u0), .val (.int u1), .val (.int u2), .val (.int u3), .val (.int (1 : Int32)), .val (.int (u1.toInt8.toInt32)), .val (.int (u2.toInt8.toInt32)), .val (.int (u3.toInt8.toInt32)), .val (.ref b45), .unset] []))
    refine own_st (fun _ k => XS.goto X46.here hx rfl (pc0 := 46) (pc' := 93) rfl (hb hby at_46) (by decide) (by decide) k) ?_
    show own_Go _ _ _ _ (T46.setTop (mkF m 93 #[.val (.int u0), .val (.int u1), .val (.int u2), .val (.int u3), .val (.int (1 : Int32)), .val (.int (u1.toInt8.toInt32)), .val (.int (u2.toInt8.toInt32)), .val (.int (u3.toInt8.toInt32)), .val (.ref b45), .unset] []))
    refine own_st (fun _ k => XS.aload X46.here hx rfl (hb hby at_93) rfl rfl k) ?_
    show own_Go _ _ _ _ (T46.setTop (mkF m 95 #[.val (.int u0), .val (.int u1), .val (.int u2), .val (.int u3), .val (.int (1 : Int32)), .val (.int (u1.toInt8.toInt32)), .val (.int (u2.toInt8.toInt32)), .val (.int (u3.toInt8.toInt32)), .val (.ref b45), .unset] [(.ref b45)]))
    obtain ⟨_, _, ⟨T47, L47, k47, n47⟩, -, X47, ⟨Lc47, hQ47, l47, y47, z47⟩, st47⟩ := Jvm.LawKit.callS X46 hx (y := (⟨"quillvax/mllp/Mllp", "frame", "([B)[B"⟩ : MethodName)) hown (mvT hZ (hw _ (List.mem_of_getElem? (i := 1) rfl))) (mvT hZ (hw _ (List.mem_of_getElem? (i := 2) rfl))) (mvT hZ (hw _ (List.mem_of_getElem? (i := 3) rfl))) (mvT hZ (hw _ (List.mem_of_getElem? (i := 4) rfl))) (by decide) (backOf (W := 0) (rm1_1 l Z a0 hw [] b45 k45 (u1.toInt8.toInt32) h46 n0 Z46 V46') hZ (hw _ (List.mem_of_getElem? (i := 4) rfl)) (hw _ (List.mem_of_getElem? (i := 3) rfl)) (by decide) (by decide)) (g := (mkF m 95 #[.val (.int u0), .val (.int u1), .val (.int u2), .val (.int u3), .val (.int (1 : Int32)), .val (.int (u1.toInt8.toInt32)), .val (.int (u2.toInt8.toInt32)), .val (.int (u3.toInt8.toInt32)), .val (.ref b45), .unset] [(.ref b45)])) rfl (by rw [hml]; rfl) (argsL := [(.ref b45)]) (rest := []) (lenOf own_pd0 rfl) rfl (by show 2 * 0 + _ ≤ _; exact Nat.le_of_eq rfl) (hb hby at_95) (fun _ _ => ⟨rfl, e46, (by decide : 1 + 1 ≤ _), (by decide : 1 + 6 ≤ _)⟩)
    dsimp only [Pt.U, Pt.locs, Pt.cells, Pt.slots] at X47 l47 y47 z47 st47 hQ47
    subst l47 y47 z47
    obtain ⟨bq47, kq47, rfl, Nq47, Kq47, gq47, Vq47⟩ := hQ47
    have N47 := Fr.app N46 Nq47
    refine own_st st47 ?_
    have neb45_bq47 : b45 ≠ bq47 := Nat.ne_of_lt (Nat.lt_of_lt_of_le V46'.lt gq47)
    have gnbq47 : n0 ≤ bq47 := Nat.le_trans Z46 gq47
    have gkbq47 : h0.size ≤ bq47 := Nat.le_trans K46.1 gq47
    have z47_V_b45 := V46'.keep Kq47 nin0
    have Z47 : n0 ≤ T47.heap.size := Nat.le_trans Z46 Kq47.1
    have Kk47 : Keep h0 T47.heap [] := K46.trans Kq47 all0
    show own_Go _ _ _ _ (T47.setTop (mkF m 98 #[.val (.int u0), .val (.int u1), .val (.int u2), .val (.int u3), .val (.int (1 : Int32)), .val (.int (u1.toInt8.toInt32)), .val (.int (u2.toInt8.toInt32)), .val (.int (u3.toInt8.toInt32)), .val (.ref b45), .unset] [(.ref bq47)]))
    refine own_st (fun _ k => XS.astore X47.here hx rfl (hb hby at_98) rfl rfl (l' := #[.val (.int u0), .val (.int u1), .val (.int u2), .val (.int u3), .val (.int (1 : Int32)), .val (.int (u1.toInt8.toInt32)), .val (.int (u2.toInt8.toInt32)), .val (.int (u3.toInt8.toInt32)), .val (.ref b45), .val (.ref bq47)]) rfl k) ?_
    show own_Go _ _ _ _ (T47.setTop (mkF m 100 #[.val (.int u0), .val (.int u1), .val (.int u2), .val (.int u3), .val (.int (1 : Int32)), .val (.int (u1.toInt8.toInt32)), .val (.int (u2.toInt8.toInt32)), .val (.int (u3.toInt8.toInt32)), .val (.ref b45), .val (.ref bq47)] []))
    refine own_st (fun _ k => XS.aload X47.here hx rfl (hb hby at_100) rfl rfl k) ?_
    show own_Go _ _ _ _ (T47.setTop (mkF m 102 #[.val (.int u0), .val (.int u1), .val (.int u2), .val (.int u3), .val (.int (1 : Int32)), .val (.int (u1.toInt8.toInt32)), .val (.int (u2.toInt8.toInt32)), .val (.int (u3.toInt8.toInt32)), .val (.ref b45), .val (.ref bq47)] [(.ref bq47)]))
    refine own_st (fun _ k => XS.ifnullNo X47.here hx rfl (hb hby at_102) rfl k) ?_
    show own_Go _ _ _ _ (T47.setTop (mkF m 105 #[.val (.int u0), .val (.int u1), .val (.int u2), .val (.int u3), .val (.int (1 : Int32)), .val (.int (u1.toInt8.toInt32)), .val (.int (u2.toInt8.toInt32)), .val (.int (u3.toInt8.toInt32)), .val (.ref b45), .val (.ref bq47)] []))
    refine own_st (fun _ k => XS.aload X47.here hx rfl (hb hby at_105) rfl rfl k) ?_
    show own_Go _ _ _ _ (T47.setTop (mkF m 107 #[.val (.int u0), .val (.int u1), .val (.int u2), .val (.int u3), .val (.int (1 : Int32)), .val (.int (u1.toInt8.toInt32)), .val (.int (u2.toInt8.toInt32)), .val (.int (u3.toInt8.toInt32)), .val (.ref b45), .val (.ref bq47)] [(.ref bq47)]))
    obtain ⟨cl48, Ar48, -, Sz48, Nn48, -, -⟩ := id Vq47
    refine own_st (X47.arraylength hx Ar48.1 (State.isArrayOf_alike hZ.alike Ar48.2.1) (g := (mkF m 107 #[.val (.int u0), .val (.int u1), .val (.int u2), .val (.int u3), .val (.int (1 : Int32)), .val (.int (u1.toInt8.toInt32)), .val (.int (u2.toInt8.toInt32)), .val (.int (u3.toInt8.toInt32)), .val (.ref b45), .val (.ref bq47)] [(.ref bq47)])) rfl rfl (hb hby at_107)) ?_
    rw [len_of Sz48 Nn48]
    show own_Go _ _ _ _ (T47.setTop (mkF m 108 #[.val (.int u0), .val (.int u1), .val (.int u2), .val (.int u3), .val (.int (1 : Int32)), .val (.int (u1.toInt8.toInt32)), .val (.int (u2.toInt8.toInt32)), .val (.int (u3.toInt8.toInt32)), .val (.ref b45), .val (.ref bq47)] [(.int (4 : Int32))]))
    refine own_st (fun _ k => XS.iload X47.here hx rfl (hb hby at_108) rfl k) ?_
    show own_Go _ _ _ _ (T47.setTop (mkF m 110 #[.val (.int u0), .val (.int u1), .val (.int u2), .val (.int u3), .val (.int (1 : Int32)), .val (.int (u1.toInt8.toInt32)), .val (.int (u2.toInt8.toInt32)), .val (.int (u3.toInt8.toInt32)), .val (.ref b45), .val (.ref bq47)] [(.int (1 : Int32)), (.int (4 : Int32))]))
    refine own_st (fun _ k => XS.iconst X47.here hx rfl (hb hby at_110) k) ?_
    show own_Go _ _ _ _ (T47.setTop (mkF m 111 #[.val (.int u0), .val (.int u1), .val (.int u2), .val (.int u3), .val (.int (1 : Int32)), .val (.int (u1.toInt8.toInt32)), .val (.int (u2.toInt8.toInt32)), .val (.int (u3.toInt8.toInt32)), .val (.ref b45), .val (.ref bq47)] [(.int (3 : Int32)), (.int (1 : Int32)), (.int (4 : Int32))]))
    refine own_st (fun _ k => XS.iadd X47.here hx rfl (hb hby at_111) rfl k) ?_
    show own_Go _ _ _ _ (T47.setTop (mkF m 112 #[.val (.int u0), .val (.int u1), .val (.int u2), .val (.int u3), .val (.int (1 : Int32)), .val (.int (u1.toInt8.toInt32)), .val (.int (u2.toInt8.toInt32)), .val (.int (u3.toInt8.toInt32)), .val (.ref b45), .val (.ref bq47)] [(.int (4 : Int32)), (.int (4 : Int32))]))
    refine own_st (fun _ k => XS.icmpYes X47.here hx rfl (pc0 := 112) (pc' := 117) rfl (hb hby at_112) rfl (teq (by decide : ((4 : Int32) = (4 : Int32)))).1 (by decide) (by decide) k) ?_
    show own_Go _ _ _ _ (T47.setTop (mkF m 117 #[.val (.int u0), .val (.int u1), .val (.int u2), .val (.int u3), .val (.int (1 : Int32)), .val (.int (u1.toInt8.toInt32)), .val (.int (u2.toInt8.toInt32)), .val (.int (u3.toInt8.toInt32)), .val (.ref b45), .val (.ref bq47)] []))
    refine own_st (fun _ k => XS.aload X47.here hx rfl (hb hby at_117) rfl rfl k) ?_
    show own_Go _ _ _ _ (T47.setTop (mkF m 119 #[.val (.int u0), .val (.int u1), .val (.int u2), .val (.int u3), .val (.int (1 : Int32)), .val (.int (u1.toInt8.toInt32)), .val (.int (u2.toInt8.toInt32)), .val (.int (u3.toInt8.toInt32)), .val (.ref b45), .val (.ref bq47)] [(.ref bq47)]))
    refine own_st (fun _ k => XS.iconst X47.here hx rfl (hb hby at_119) k) ?_
    show own_Go _ _ _ _ (T47.setTop (mkF m 120 #[.val (.int u0), .val (.int u1), .val (.int u2), .val (.int u3), .val (.int (1 : Int32)), .val (.int (u1.toInt8.toInt32)), .val (.int (u2.toInt8.toInt32)), .val (.int (u3.toInt8.toInt32)), .val (.ref b45), .val (.ref bq47)] [(.int (0 : Int32)), (.ref bq47)]))
    obtain ⟨cl49, Ar49, -, Sz49, Nn49, Hs49, -⟩ := id Vq47
    have hin49 : ¬ ((0 : Int32) < 0 ∨ cl49.slots.size ≤ ((0 : Int32)).toNatClampNeg) := inb_of Sz49 ⟨(by decide : ¬ ((0 : Int32) < (0 : Int32))), (by decide : (0 : Int32) < (4 : Int32))⟩
    have hat49 : cl49.slots[((0 : Int32)).toNatClampNeg]? = some (.int (11 : Int32)) := Hs49.at hin49 rfl
    refine own_st (X47.baloadBytes hx (j := (0 : Int32)) (v := (.int (11 : Int32))) Ar49.1 (State.isArrayOf_alike hZ.alike Ar49.2.1) Ar49.2.2 hin49 hat49 (g := (mkF m 120 #[.val (.int u0), .val (.int u1), .val (.int u2), .val (.int u3), .val (.int (1 : Int32)), .val (.int (u1.toInt8.toInt32)), .val (.int (u2.toInt8.toInt32)), .val (.int (u3.toInt8.toInt32)), .val (.ref b45), .val (.ref bq47)] [(.int (0 : Int32)), (.ref bq47)])) rfl rfl (hb hby at_120)) ?_
    show own_Go _ _ _ _ (T47.setTop (mkF m 121 #[.val (.int u0), .val (.int u1), .val (.int u2), .val (.int u3), .val (.int (1 : Int32)), .val (.int (u1.toInt8.toInt32)), .val (.int (u2.toInt8.toInt32)), .val (.int (u3.toInt8.toInt32)), .val (.ref b45), .val (.ref bq47)] [(.int (11 : Int32))]))
    refine own_st (fun _ k => XS.bipush X47.here hx rfl (hb hby at_121) k) ?_
    show own_Go _ _ _ _ (T47.setTop (mkF m 123 #[.val (.int u0), .val (.int u1), .val (.int u2), .val (.int u3), .val (.int (1 : Int32)), .val (.int (u1.toInt8.toInt32)), .val (.int (u2.toInt8.toInt32)), .val (.int (u3.toInt8.toInt32)), .val (.ref b45), .val (.ref bq47)] [(.int (11 : Int32)), (.int (11 : Int32))]))
    refine own_st (fun _ k => XS.icmpYes X47.here hx rfl (pc0 := 123) (pc' := 128) rfl (hb hby at_123) rfl (teq (by decide : ((11 : Int32) = (11 : Int32)))).1 (by decide) (by decide) k) ?_
    show own_Go _ _ _ _ (T47.setTop (mkF m 128 #[.val (.int u0), .val (.int u1), .val (.int u2), .val (.int u3), .val (.int (1 : Int32)), .val (.int (u1.toInt8.toInt32)), .val (.int (u2.toInt8.toInt32)), .val (.int (u3.toInt8.toInt32)), .val (.ref b45), .val (.ref bq47)] []))
    refine own_st (fun _ k => XS.iload X47.here hx rfl (hb hby at_128) rfl k) ?_
    show own_Go _ _ _ _ (T47.setTop (mkF m 130 #[.val (.int u0), .val (.int u1), .val (.int u2), .val (.int u3), .val (.int (1 : Int32)), .val (.int (u1.toInt8.toInt32)), .val (.int (u2.toInt8.toInt32)), .val (.int (u3.toInt8.toInt32)), .val (.ref b45), .val (.ref bq47)] [(.int (1 : Int32))]))
    refine own_st (fun _ k => XS.iconst X47.here hx rfl (hb hby at_130) k) ?_
    show own_Go _ _ _ _ (T47.setTop (mkF m 131 #[.val (.int u0), .val (.int u1), .val (.int u2), .val (.int u3), .val (.int (1 : Int32)), .val (.int (u1.toInt8.toInt32)), .val (.int (u2.toInt8.toInt32)), .val (.int (u3.toInt8.toInt32)), .val (.ref b45), .val (.ref bq47)] [(.int (1 : Int32)), (.int (1 : Int32))]))
    refine own_st (fun _ k => XS.icmpNo X47.here hx rfl (hb hby at_131) rfl (flt (by decide : ¬ ((1 : Int32) < (1 : Int32)))).1 k) ?_
    show own_Go _ _ _ _ (T47.setTop (mkF m 134 #[.val (.int u0), .val (.int u1), .val (.int u2), .val (.int u3), .val (.int (1 : Int32)), .val (.int (u1.toInt8.toInt32)), .val (.int (u2.toInt8.toInt32)), .val (.int (u3.toInt8.toInt32)), .val (.ref b45), .val (.ref bq47)] []))
    refine own_st (fun _ k => XS.aload X47.here hx rfl (hb hby at_134) rfl rfl k) ?_
    show own_Go _ _ _ _ (T47.setTop (mkF m 136 #[.val (.int u0), .val (.int u1), .val (.int u2), .val (.int u3), .val (.int (1 : Int32)), .val (.int (u1.toInt8.toInt32)), .val (.int (u2.toInt8.toInt32)), .val (.int (u3.toInt8.toInt32)), .val (.ref b45), .val (.ref bq47)] [(.ref bq47)]))
    refine own_st (fun _ k => XS.iconst X47.here hx rfl (hb hby at_136) k) ?_
    show own_Go _ _ _ _ (T47.setTop (mkF m 137 #[.val (.int u0), .val (.int u1), .val (.int u2), .val (.int u3), .val (.int (1 : Int32)), .val (.int (u1.toInt8.toInt32)), .val (.int (u2.toInt8.toInt32)), .val (.int (u3.toInt8.toInt32)), .val (.ref b45), .val (.ref bq47)] [(.int (1 : Int32)), (.ref bq47)]))
    obtain ⟨cl50, Ar50, -, Sz50, Nn50, Hs50, -⟩ := id Vq47
    have hin50 : ¬ ((1 : Int32) < 0 ∨ cl50.slots.size ≤ ((1 : Int32)).toNatClampNeg) := inb_of Sz50 ⟨(by decide : ¬ ((1 : Int32) < (0 : Int32))), (by decide : (1 : Int32) < (4 : Int32))⟩
    have hat50 : cl50.slots[((1 : Int32)).toNatClampNeg]? = some (.int (u1.toInt8.toInt32)) := Hs50.at hin50 rfl
    refine own_st (X47.baloadBytes hx (j := (1 : Int32)) (v := (.int (u1.toInt8.toInt32))) Ar50.1 (State.isArrayOf_alike hZ.alike Ar50.2.1) Ar50.2.2 hin50 hat50 (g := (mkF m 137 #[.val (.int u0), .val (.int u1), .val (.int u2), .val (.int u3), .val (.int (1 : Int32)), .val (.int (u1.toInt8.toInt32)), .val (.int (u2.toInt8.toInt32)), .val (.int (u3.toInt8.toInt32)), .val (.ref b45), .val (.ref bq47)] [(.int (1 : Int32)), (.ref bq47)])) rfl rfl (hb hby at_137)) ?_
    show own_Go _ _ _ _ (T47.setTop (mkF m 138 #[.val (.int u0), .val (.int u1), .val (.int u2), .val (.int u3), .val (.int (1 : Int32)), .val (.int (u1.toInt8.toInt32)), .val (.int (u2.toInt8.toInt32)), .val (.int (u3.toInt8.toInt32)), .val (.ref b45), .val (.ref bq47)] [(.int (u1.toInt8.toInt32))]))
    refine own_st (fun _ k => XS.iload X47.here hx rfl (hb hby at_138) rfl k) ?_
    show own_Go _ _ _ _ (T47.setTop (mkF m 140 #[.val (.int u0), .val (.int u1), .val (.int u2), .val (.int u3), .val (.int (1 : Int32)), .val (.int (u1.toInt8.toInt32)), .val (.int (u2.toInt8.toInt32)), .val (.int (u3.toInt8.toInt32)), .val (.ref b45), .val (.ref bq47)] [(.int (u1.toInt8.toInt32)), (.int (u1.toInt8.toInt32))]))
    refine own_st (fun _ k => XS.icmpYes X47.here hx rfl (pc0 := 140) (pc' := 145) rfl (hb hby at_140) rfl (teq (rfl : (u1.toInt8.toInt32) = (u1.toInt8.toInt32))).1 (by decide) (by decide) k) ?_
    show own_Go _ _ _ _ (T47.setTop (mkF m 145 #[.val (.int u0), .val (.int u1), .val (.int u2), .val (.int u3), .val (.int (1 : Int32)), .val (.int (u1.toInt8.toInt32)), .val (.int (u2.toInt8.toInt32)), .val (.int (u3.toInt8.toInt32)), .val (.ref b45), .val (.ref bq47)] []))
    refine own_st (fun _ k => XS.iload X47.here hx rfl (hb hby at_145) rfl k) ?_
    show own_Go _ _ _ _ (T47.setTop (mkF m 147 #[.val (.int u0), .val (.int u1), .val (.int u2), .val (.int u3), .val (.int (1 : Int32)), .val (.int (u1.toInt8.toInt32)), .val (.int (u2.toInt8.toInt32)), .val (.int (u3.toInt8.toInt32)), .val (.ref b45), .val (.ref bq47)] [(.int (1 : Int32))]))
    refine own_st (fun _ k => XS.iconst X47.here hx rfl (hb hby at_147) k) ?_
    show own_Go _ _ _ _ (T47.setTop (mkF m 148 #[.val (.int u0), .val (.int u1), .val (.int u2), .val (.int u3), .val (.int (1 : Int32)), .val (.int (u1.toInt8.toInt32)), .val (.int (u2.toInt8.toInt32)), .val (.int (u3.toInt8.toInt32)), .val (.ref b45), .val (.ref bq47)] [(.int (2 : Int32)), (.int (1 : Int32))]))
    refine own_st (fun _ k => XS.icmpYes X47.here hx rfl (pc0 := 148) (pc' := 162) rfl (hb hby at_148) rfl (tlt (by decide : ((1 : Int32) < (2 : Int32)))).1 (by decide) (by decide) k) ?_
    show own_Go _ _ _ _ (T47.setTop (mkF m 162 #[.val (.int u0), .val (.int u1), .val (.int u2), .val (.int u3), .val (.int (1 : Int32)), .val (.int (u1.toInt8.toInt32)), .val (.int (u2.toInt8.toInt32)), .val (.int (u3.toInt8.toInt32)), .val (.ref b45), .val (.ref bq47)] []))
    refine own_st (fun _ k => XS.iload X47.here hx rfl (hb hby at_162) rfl k) ?_
    show own_Go _ _ _ _ (T47.setTop (mkF m 164 #[.val (.int u0), .val (.int u1), .val (.int u2), .val (.int u3), .val (.int (1 : Int32)), .val (.int (u1.toInt8.toInt32)), .val (.int (u2.toInt8.toInt32)), .val (.int (u3.toInt8.toInt32)), .val (.ref b45), .val (.ref bq47)] [(.int (1 : Int32))]))
    refine own_st (fun _ k => XS.iconst X47.here hx rfl (hb hby at_164) k) ?_
    show own_Go _ _ _ _ (T47.setTop (mkF m 165 #[.val (.int u0), .val (.int u1), .val (.int u2), .val (.int u3), .val (.int (1 : Int32)), .val (.int (u1.toInt8.toInt32)), .val (.int (u2.toInt8.toInt32)), .val (.int (u3.toInt8.toInt32)), .val (.ref b45), .val (.ref bq47)] [(.int (3 : Int32)), (.int (1 : Int32))]))
    refine own_st (fun _ k => XS.icmpYes X47.here hx rfl (pc0 := 165) (pc' := 179) rfl (hb hby at_165) rfl (tlt (by decide : ((1 : Int32) < (3 : Int32)))).1 (by decide) (by decide) k) ?_
    show own_Go _ _ _ _ (T47.setTop (mkF m 179 #[.val (.int u0), .val (.int u1), .val (.int u2), .val (.int u3), .val (.int (1 : Int32)), .val (.int (u1.toInt8.toInt32)), .val (.int (u2.toInt8.toInt32)), .val (.int (u3.toInt8.toInt32)), .val (.ref b45), .val (.ref bq47)] []))
    refine own_st (fun _ k => XS.aload X47.here hx rfl (hb hby at_179) rfl rfl k) ?_
    show own_Go _ _ _ _ (T47.setTop (mkF m 181 #[.val (.int u0), .val (.int u1), .val (.int u2), .val (.int u3), .val (.int (1 : Int32)), .val (.int (u1.toInt8.toInt32)), .val (.int (u2.toInt8.toInt32)), .val (.int (u3.toInt8.toInt32)), .val (.ref b45), .val (.ref bq47)] [(.ref bq47)]))
    refine own_st (fun _ k => XS.iload X47.here hx rfl (hb hby at_181) rfl k) ?_
    show own_Go _ _ _ _ (T47.setTop (mkF m 183 #[.val (.int u0), .val (.int u1), .val (.int u2), .val (.int u3), .val (.int (1 : Int32)), .val (.int (u1.toInt8.toInt32)), .val (.int (u2.toInt8.toInt32)), .val (.int (u3.toInt8.toInt32)), .val (.ref b45), .val (.ref bq47)] [(.int (1 : Int32)), (.ref bq47)]))
    refine own_st (fun _ k => XS.iconst X47.here hx rfl (hb hby at_183) k) ?_
    show own_Go _ _ _ _ (T47.setTop (mkF m 184 #[.val (.int u0), .val (.int u1), .val (.int u2), .val (.int u3), .val (.int (1 : Int32)), .val (.int (u1.toInt8.toInt32)), .val (.int (u2.toInt8.toInt32)), .val (.int (u3.toInt8.toInt32)), .val (.ref b45), .val (.ref bq47)] [(.int (1 : Int32)), (.int (1 : Int32)), (.ref bq47)]))
    refine own_st (fun _ k => XS.iadd X47.here hx rfl (hb hby at_184) rfl k) ?_
    show own_Go _ _ _ _ (T47.setTop (mkF m 185 #[.val (.int u0), .val (.int u1), .val (.int u2), .val (.int u3), .val (.int (1 : Int32)), .val (.int (u1.toInt8.toInt32)), .val (.int (u2.toInt8.toInt32)), .val (.int (u3.toInt8.toInt32)), .val (.ref b45), .val (.ref bq47)] [(.int (2 : Int32)), (.ref bq47)]))
    obtain ⟨cl51, Ar51, -, Sz51, Nn51, Hs51, -⟩ := id Vq47
    have hin51 : ¬ ((2 : Int32) < 0 ∨ cl51.slots.size ≤ ((2 : Int32)).toNatClampNeg) := inb_of Sz51 ⟨(by decide : ¬ ((2 : Int32) < (0 : Int32))), (by decide : (2 : Int32) < (4 : Int32))⟩
    have hat51 : cl51.slots[((2 : Int32)).toNatClampNeg]? = some (.int (28 : Int32)) := Hs51.at hin51 rfl
    refine own_st (X47.baloadBytes hx (j := (2 : Int32)) (v := (.int (28 : Int32))) Ar51.1 (State.isArrayOf_alike hZ.alike Ar51.2.1) Ar51.2.2 hin51 hat51 (g := (mkF m 185 #[.val (.int u0), .val (.int u1), .val (.int u2), .val (.int u3), .val (.int (1 : Int32)), .val (.int (u1.toInt8.toInt32)), .val (.int (u2.toInt8.toInt32)), .val (.int (u3.toInt8.toInt32)), .val (.ref b45), .val (.ref bq47)] [(.int (2 : Int32)), (.ref bq47)])) rfl rfl (hb hby at_185)) ?_
    show own_Go _ _ _ _ (T47.setTop (mkF m 186 #[.val (.int u0), .val (.int u1), .val (.int u2), .val (.int u3), .val (.int (1 : Int32)), .val (.int (u1.toInt8.toInt32)), .val (.int (u2.toInt8.toInt32)), .val (.int (u3.toInt8.toInt32)), .val (.ref b45), .val (.ref bq47)] [(.int (28 : Int32))]))
    refine own_st (fun _ k => XS.bipush X47.here hx rfl (hb hby at_186) k) ?_
    show own_Go _ _ _ _ (T47.setTop (mkF m 188 #[.val (.int u0), .val (.int u1), .val (.int u2), .val (.int u3), .val (.int (1 : Int32)), .val (.int (u1.toInt8.toInt32)), .val (.int (u2.toInt8.toInt32)), .val (.int (u3.toInt8.toInt32)), .val (.ref b45), .val (.ref bq47)] [(.int (28 : Int32)), (.int (28 : Int32))]))
    refine own_st (fun _ k => XS.icmpNo X47.here hx rfl (hb hby at_188) rfl (teq (by decide : ((28 : Int32) = (28 : Int32)))).2 k) ?_
    show own_Go _ _ _ _ (T47.setTop (mkF m 191 #[.val (.int u0), .val (.int u1), .val (.int u2), .val (.int u3), .val (.int (1 : Int32)), .val (.int (u1.toInt8.toInt32)), .val (.int (u2.toInt8.toInt32)), .val (.int (u3.toInt8.toInt32)), .val (.ref b45), .val (.ref bq47)] []))
    refine own_st (fun _ k => XS.aload X47.here hx rfl (hb hby at_191) rfl rfl k) ?_
    show own_Go _ _ _ _ (T47.setTop (mkF m 193 #[.val (.int u0), .val (.int u1), .val (.int u2), .val (.int u3), .val (.int (1 : Int32)), .val (.int (u1.toInt8.toInt32)), .val (.int (u2.toInt8.toInt32)), .val (.int (u3.toInt8.toInt32)), .val (.ref b45), .val (.ref bq47)] [(.ref bq47)]))
    refine own_st (fun _ k => XS.iload X47.here hx rfl (hb hby at_193) rfl k) ?_
    show own_Go _ _ _ _ (T47.setTop (mkF m 195 #[.val (.int u0), .val (.int u1), .val (.int u2), .val (.int u3), .val (.int (1 : Int32)), .val (.int (u1.toInt8.toInt32)), .val (.int (u2.toInt8.toInt32)), .val (.int (u3.toInt8.toInt32)), .val (.ref b45), .val (.ref bq47)] [(.int (1 : Int32)), (.ref bq47)]))
    refine own_st (fun _ k => XS.iconst X47.here hx rfl (hb hby at_195) k) ?_
    show own_Go _ _ _ _ (T47.setTop (mkF m 196 #[.val (.int u0), .val (.int u1), .val (.int u2), .val (.int u3), .val (.int (1 : Int32)), .val (.int (u1.toInt8.toInt32)), .val (.int (u2.toInt8.toInt32)), .val (.int (u3.toInt8.toInt32)), .val (.ref b45), .val (.ref bq47)] [(.int (2 : Int32)), (.int (1 : Int32)), (.ref bq47)]))
    refine own_st (fun _ k => XS.iadd X47.here hx rfl (hb hby at_196) rfl k) ?_
    show own_Go _ _ _ _ (T47.setTop (mkF m 197 #[.val (.int u0), .val (.int u1), .val (.int u2), .val (.int u3), .val (.int (1 : Int32)), .val (.int (u1.toInt8.toInt32)), .val (.int (u2.toInt8.toInt32)), .val (.int (u3.toInt8.toInt32)), .val (.ref b45), .val (.ref bq47)] [(.int (3 : Int32)), (.ref bq47)]))
    obtain ⟨cl52, Ar52, -, Sz52, Nn52, Hs52, -⟩ := id Vq47
    have hin52 : ¬ ((3 : Int32) < 0 ∨ cl52.slots.size ≤ ((3 : Int32)).toNatClampNeg) := inb_of Sz52 ⟨(by decide : ¬ ((3 : Int32) < (0 : Int32))), (by decide : (3 : Int32) < (4 : Int32))⟩
    have hat52 : cl52.slots[((3 : Int32)).toNatClampNeg]? = some (.int (13 : Int32)) := Hs52.at hin52 rfl
    refine own_st (X47.baloadBytes hx (j := (3 : Int32)) (v := (.int (13 : Int32))) Ar52.1 (State.isArrayOf_alike hZ.alike Ar52.2.1) Ar52.2.2 hin52 hat52 (g := (mkF m 197 #[.val (.int u0), .val (.int u1), .val (.int u2), .val (.int u3), .val (.int (1 : Int32)), .val (.int (u1.toInt8.toInt32)), .val (.int (u2.toInt8.toInt32)), .val (.int (u3.toInt8.toInt32)), .val (.ref b45), .val (.ref bq47)] [(.int (3 : Int32)), (.ref bq47)])) rfl rfl (hb hby at_197)) ?_
    show own_Go _ _ _ _ (T47.setTop (mkF m 198 #[.val (.int u0), .val (.int u1), .val (.int u2), .val (.int u3), .val (.int (1 : Int32)), .val (.int (u1.toInt8.toInt32)), .val (.int (u2.toInt8.toInt32)), .val (.int (u3.toInt8.toInt32)), .val (.ref b45), .val (.ref bq47)] [(.int (13 : Int32))]))
    refine own_st (fun _ k => XS.bipush X47.here hx rfl (hb hby at_198) k) ?_
    show own_Go _ _ _ _ (T47.setTop (mkF m 200 #[.val (.int u0), .val (.int u1), .val (.int u2), .val (.int u3), .val (.int (1 : Int32)), .val (.int (u1.toInt8.toInt32)), .val (.int (u2.toInt8.toInt32)), .val (.int (u3.toInt8.toInt32)), .val (.ref b45), .val (.ref bq47)] [(.int (13 : Int32)), (.int (13 : Int32))]))
    refine own_st (fun _ k => XS.icmpYes X47.here hx rfl (pc0 := 200) (pc' := 205) rfl (hb hby at_200) rfl (teq (by decide : ((13 : Int32) = (13 : Int32)))).1 (by decide) (by decide) k) ?_
    show own_Go _ _ _ _ (T47.setTop (mkF m 205 #[.val (.int u0), .val (.int u1), .val (.int u2), .val (.int u3), .val (.int (1 : Int32)), .val (.int (u1.toInt8.toInt32)), .val (.int (u2.toInt8.toInt32)), .val (.int (u3.toInt8.toInt32)), .val (.ref b45), .val (.ref bq47)] []))
    refine own_st (fun _ k => XS.aload X47.here hx rfl (hb hby at_205) rfl rfl k) ?_
    show own_Go _ _ _ _ (T47.setTop (mkF m 207 #[.val (.int u0), .val (.int u1), .val (.int u2), .val (.int u3), .val (.int (1 : Int32)), .val (.int (u1.toInt8.toInt32)), .val (.int (u2.toInt8.toInt32)), .val (.int (u3.toInt8.toInt32)), .val (.ref b45), .val (.ref bq47)] [(.ref b45)]))
    obtain ⟨cl53, Ar53, -, Sz53, Nn53, -, -⟩ := id z47_V_b45
    refine own_st (X47.arraylength hx Ar53.1 (State.isArrayOf_alike hZ.alike Ar53.2.1) (g := (mkF m 207 #[.val (.int u0), .val (.int u1), .val (.int u2), .val (.int u3), .val (.int (1 : Int32)), .val (.int (u1.toInt8.toInt32)), .val (.int (u2.toInt8.toInt32)), .val (.int (u3.toInt8.toInt32)), .val (.ref b45), .val (.ref bq47)] [(.ref b45)])) rfl rfl (hb hby at_207)) ?_
    rw [len_of Sz53 Nn53]
    show own_Go _ _ _ _ (T47.setTop (mkF m 208 #[.val (.int u0), .val (.int u1), .val (.int u2), .val (.int u3), .val (.int (1 : Int32)), .val (.int (u1.toInt8.toInt32)), .val (.int (u2.toInt8.toInt32)), .val (.int (u3.toInt8.toInt32)), .val (.ref b45), .val (.ref bq47)] [(.int (1 : Int32))]))
    refine own_st (fun _ k => XS.iload X47.here hx rfl (hb hby at_208) rfl k) ?_
    show own_Go _ _ _ _ (T47.setTop (mkF m 210 #[.val (.int u0), .val (.int u1), .val (.int u2), .val (.int u3), .val (.int (1 : Int32)), .val (.int (u1.toInt8.toInt32)), .val (.int (u2.toInt8.toInt32)), .val (.int (u3.toInt8.toInt32)), .val (.ref b45), .val (.ref bq47)] [(.int (1 : Int32)), (.int (1 : Int32))]))
    refine own_st (fun _ k => XS.icmpYes X47.here hx rfl (pc0 := 210) (pc' := 215) rfl (hb hby at_210) rfl (teq (by decide : ((1 : Int32) = (1 : Int32)))).1 (by decide) (by decide) k) ?_
    show own_Go _ _ _ _ (T47.setTop (mkF m 215 #[.val (.int u0), .val (.int u1), .val (.int u2), .val (.int u3), .val (.int (1 : Int32)), .val (.int (u1.toInt8.toInt32)), .val (.int (u2.toInt8.toInt32)), .val (.int (u3.toInt8.toInt32)), .val (.ref b45), .val (.ref bq47)] []))
    refine own_st (fun _ k => XS.iload X47.here hx rfl (hb hby at_215) rfl k) ?_
    show own_Go _ _ _ _ (T47.setTop (mkF m 217 #[.val (.int u0), .val (.int u1), .val (.int u2), .val (.int u3), .val (.int (1 : Int32)), .val (.int (u1.toInt8.toInt32)), .val (.int (u2.toInt8.toInt32)), .val (.int (u3.toInt8.toInt32)), .val (.ref b45), .val (.ref bq47)] [(.int (1 : Int32))]))
    refine own_st (fun _ k => XS.iconst X47.here hx rfl (hb hby at_217) k) ?_
    show own_Go _ _ _ _ (T47.setTop (mkF m 218 #[.val (.int u0), .val (.int u1), .val (.int u2), .val (.int u3), .val (.int (1 : Int32)), .val (.int (u1.toInt8.toInt32)), .val (.int (u2.toInt8.toInt32)), .val (.int (u3.toInt8.toInt32)), .val (.ref b45), .val (.ref bq47)] [(.int (1 : Int32)), (.int (1 : Int32))]))
    refine own_st (fun _ k => XS.icmpNo X47.here hx rfl (hb hby at_218) rfl (flt (by decide : ¬ ((1 : Int32) < (1 : Int32)))).1 k) ?_
    show own_Go _ _ _ _ (T47.setTop (mkF m 221 #[.val (.int u0), .val (.int u1), .val (.int u2), .val (.int u3), .val (.int (1 : Int32)), .val (.int (u1.toInt8.toInt32)), .val (.int (u2.toInt8.toInt32)), .val (.int (u3.toInt8.toInt32)), .val (.ref b45), .val (.ref bq47)] []))
    refine own_st (fun _ k => XS.aload X47.here hx rfl (hb hby at_221) rfl rfl k) ?_
    show own_Go _ _ _ _ (T47.setTop (mkF m 223 #[.val (.int u0), .val (.int u1), .val (.int u2), .val (.int u3), .val (.int (1 : Int32)), .val (.int (u1.toInt8.toInt32)), .val (.int (u2.toInt8.toInt32)), .val (.int (u3.toInt8.toInt32)), .val (.ref b45), .val (.ref bq47)] [(.ref b45)]))
    refine own_st (fun _ k => XS.iconst X47.here hx rfl (hb hby at_223) k) ?_
    show own_Go _ _ _ _ (T47.setTop (mkF m 224 #[.val (.int u0), .val (.int u1), .val (.int u2), .val (.int u3), .val (.int (1 : Int32)), .val (.int (u1.toInt8.toInt32)), .val (.int (u2.toInt8.toInt32)), .val (.int (u3.toInt8.toInt32)), .val (.ref b45), .val (.ref bq47)] [(.int (0 : Int32)), (.ref b45)]))
    obtain ⟨cl54, Ar54, -, Sz54, Nn54, Hs54, -⟩ := id z47_V_b45
    have hin54 : ¬ ((0 : Int32) < 0 ∨ cl54.slots.size ≤ ((0 : Int32)).toNatClampNeg) := inb_of Sz54 ⟨(by decide : ¬ ((0 : Int32) < (0 : Int32))), (by decide : (0 : Int32) < (1 : Int32))⟩
    have hat54 : cl54.slots[((0 : Int32)).toNatClampNeg]? = some (.int (u1.toInt8.toInt32)) := Hs54.at hin54 rfl
    refine own_st (X47.baloadBytes hx (j := (0 : Int32)) (v := (.int (u1.toInt8.toInt32))) Ar54.1 (State.isArrayOf_alike hZ.alike Ar54.2.1) Ar54.2.2 hin54 hat54 (g := (mkF m 224 #[.val (.int u0), .val (.int u1), .val (.int u2), .val (.int u3), .val (.int (1 : Int32)), .val (.int (u1.toInt8.toInt32)), .val (.int (u2.toInt8.toInt32)), .val (.int (u3.toInt8.toInt32)), .val (.ref b45), .val (.ref bq47)] [(.int (0 : Int32)), (.ref b45)])) rfl rfl (hb hby at_224)) ?_
    show own_Go _ _ _ _ (T47.setTop (mkF m 225 #[.val (.int u0), .val (.int u1), .val (.int u2), .val (.int u3), .val (.int (1 : Int32)), .val (.int (u1.toInt8.toInt32)), .val (.int (u2.toInt8.toInt32)), .val (.int (u3.toInt8.toInt32)), .val (.ref b45), .val (.ref bq47)] [(.int (u1.toInt8.toInt32))]))
    refine own_st (fun _ k => XS.iload X47.here hx rfl (hb hby at_225) rfl k) ?_
    show own_Go _ _ _ _ (T47.setTop (mkF m 227 #[.val (.int u0), .val (.int u1), .val (.int u2), .val (.int u3), .val (.int (1 : Int32)), .val (.int (u1.toInt8.toInt32)), .val (.int (u2.toInt8.toInt32)), .val (.int (u3.toInt8.toInt32)), .val (.ref b45), .val (.ref bq47)] [(.int (u1.toInt8.toInt32)), (.int (u1.toInt8.toInt32))]))
    refine own_st (fun _ k => XS.icmpYes X47.here hx rfl (pc0 := 227) (pc' := 232) rfl (hb hby at_227) rfl (teq (rfl : (u1.toInt8.toInt32) = (u1.toInt8.toInt32))).1 (by decide) (by decide) k) ?_
    show own_Go _ _ _ _ (T47.setTop (mkF m 232 #[.val (.int u0), .val (.int u1), .val (.int u2), .val (.int u3), .val (.int (1 : Int32)), .val (.int (u1.toInt8.toInt32)), .val (.int (u2.toInt8.toInt32)), .val (.int (u3.toInt8.toInt32)), .val (.ref b45), .val (.ref bq47)] []))
    refine own_st (fun _ k => XS.iload X47.here hx rfl (hb hby at_232) rfl k) ?_
    show own_Go _ _ _ _ (T47.setTop (mkF m 234 #[.val (.int u0), .val (.int u1), .val (.int u2), .val (.int u3), .val (.int (1 : Int32)), .val (.int (u1.toInt8.toInt32)), .val (.int (u2.toInt8.toInt32)), .val (.int (u3.toInt8.toInt32)), .val (.ref b45), .val (.ref bq47)] [(.int (1 : Int32))]))
    refine own_st (fun _ k => XS.iconst X47.here hx rfl (hb hby at_234) k) ?_
    show own_Go _ _ _ _ (T47.setTop (mkF m 235 #[.val (.int u0), .val (.int u1), .val (.int u2), .val (.int u3), .val (.int (1 : Int32)), .val (.int (u1.toInt8.toInt32)), .val (.int (u2.toInt8.toInt32)), .val (.int (u3.toInt8.toInt32)), .val (.ref b45), .val (.ref bq47)] [(.int (2 : Int32)), (.int (1 : Int32))]))
    refine own_st (fun _ k => XS.icmpYes X47.here hx rfl (pc0 := 235) (pc' := 249) rfl (hb hby at_235) rfl (tlt (by decide : ((1 : Int32) < (2 : Int32)))).1 (by decide) (by decide) k) ?_
    show own_Go _ _ _ _ (T47.setTop (mkF m 249 #[.val (.int u0), .val (.int u1), .val (.int u2), .val (.int u3), .val (.int (1 : Int32)), .val (.int (u1.toInt8.toInt32)), .val (.int (u2.toInt8.toInt32)), .val (.int (u3.toInt8.toInt32)), .val (.ref b45), .val (.ref bq47)] []))
    refine own_st (fun _ k => XS.iload X47.here hx rfl (hb hby at_249) rfl k) ?_
    show own_Go _ _ _ _ (T47.setTop (mkF m 251 #[.val (.int u0), .val (.int u1), .val (.int u2), .val (.int u3), .val (.int (1 : Int32)), .val (.int (u1.toInt8.toInt32)), .val (.int (u2.toInt8.toInt32)), .val (.int (u3.toInt8.toInt32)), .val (.ref b45), .val (.ref bq47)] [(.int (1 : Int32))]))
    refine own_st (fun _ k => XS.iconst X47.here hx rfl (hb hby at_251) k) ?_
    show own_Go _ _ _ _ (T47.setTop (mkF m 252 #[.val (.int u0), .val (.int u1), .val (.int u2), .val (.int u3), .val (.int (1 : Int32)), .val (.int (u1.toInt8.toInt32)), .val (.int (u2.toInt8.toInt32)), .val (.int (u3.toInt8.toInt32)), .val (.ref b45), .val (.ref bq47)] [(.int (3 : Int32)), (.int (1 : Int32))]))
    refine own_st (fun _ k => XS.icmpYes X47.here hx rfl (pc0 := 252) (pc' := 266) rfl (hb hby at_252) rfl (tlt (by decide : ((1 : Int32) < (3 : Int32)))).1 (by decide) (by decide) k) ?_
    show own_Go _ _ _ _ (T47.setTop (mkF m 266 #[.val (.int u0), .val (.int u1), .val (.int u2), .val (.int u3), .val (.int (1 : Int32)), .val (.int (u1.toInt8.toInt32)), .val (.int (u2.toInt8.toInt32)), .val (.int (u3.toInt8.toInt32)), .val (.ref b45), .val (.ref bq47)] []))
    refine own_st (fun _ k => XS.iconst X47.here hx rfl (hb hby at_266) k) ?_
    show own_Go _ _ _ _ (T47.setTop (mkF m 267 #[.val (.int u0), .val (.int u1), .val (.int u2), .val (.int u3), .val (.int (1 : Int32)), .val (.int (u1.toInt8.toInt32)), .val (.int (u2.toInt8.toInt32)), .val (.int (u3.toInt8.toInt32)), .val (.ref b45), .val (.ref bq47)] [(.int (1 : Int32))]))
    obtain ⟨fs, hr, hrun, hended, hW, hsame⟩ := X47.leave (v := some (.int (1 : Int32))) (fun h => by rw [Bd.returns] at h; cases h)
    refine own_out (retN X47 hx (t := .boolean) Bd.returns (by simp) (hb hby at_267) hr) ⟨hrun, hended, _, _, rfl, ?_, ⟨_, rfl⟩, hW, hsame.mono (by decide) (by decide)⟩
    show Q0 Z u0 u1 u2 u3 h0 n0 _ T47.heap _
    exact ⟨rfl, N47⟩
  · skip
    rw [hs37]
    show own_Go _ _ _ _ (s₁.setTop (mkF m 5 #[.val (.int u0), .val (.int u1), .val (.int u2), .val (.int u3), .val (.int (2 : Int32)), .unset, .unset, .unset, .unset, .unset] []))
    refine own_st (fun _ k => XS.iloadN X0.here hx rfl (hb hby at_5) rfl k) ?_
    show own_Go _ _ _ _ (s₁.setTop (mkF m 6 #[.val (.int u0), .val (.int u1), .val (.int u2), .val (.int u3), .val (.int (2 : Int32)), .unset, .unset, .unset, .unset, .unset] [(.int u1)]))
    refine own_st (fun _ k => XS.i2b X0.here hx rfl (hb hby at_6) rfl k) ?_
    show own_Go _ _ _ _ (s₁.setTop (mkF m 7 #[.val (.int u0), .val (.int u1), .val (.int u2), .val (.int u3), .val (.int (2 : Int32)), .unset, .unset, .unset, .unset, .unset] [(.int (u1.toInt8.toInt32))]))
    refine own_st (fun _ k => XS.istore X0.here hx rfl (hb hby at_7) rfl (l' := #[.val (.int u0), .val (.int u1), .val (.int u2), .val (.int u3), .val (.int (2 : Int32)), .val (.int (u1.toInt8.toInt32)), .unset, .unset, .unset, .unset]) rfl k) ?_
    show own_Go _ _ _ _ (s₁.setTop (mkF m 9 #[.val (.int u0), .val (.int u1), .val (.int u2), .val (.int u3), .val (.int (2 : Int32)), .val (.int (u1.toInt8.toInt32)), .unset, .unset, .unset, .unset] []))
    refine own_st (fun _ k => XS.iloadN X0.here hx rfl (hb hby at_9) rfl k) ?_
    show own_Go _ _ _ _ (s₁.setTop (mkF m 10 #[.val (.int u0), .val (.int u1), .val (.int u2), .val (.int u3), .val (.int (2 : Int32)), .val (.int (u1.toInt8.toInt32)), .unset, .unset, .unset, .unset] [(.int u2)]))
    refine own_st (fun _ k => XS.i2b X0.here hx rfl (hb hby at_10) rfl k) ?_
    show own_Go _ _ _ _ (s₁.setTop (mkF m 11 #[.val (.int u0), .val (.int u1), .val (.int u2), .val (.int u3), .val (.int (2 : Int32)), .val (.int (u1.toInt8.toInt32)), .unset, .unset, .unset, .unset] [(.int (u2.toInt8.toInt32))]))
    refine own_st (fun _ k => XS.istore X0.here hx rfl (hb hby at_11) rfl (l' := #[.val (.int u0), .val (.int u1), .val (.int u2), .val (.int u3), .val (.int (2 : Int32)), .val (.int (u1.toInt8.toInt32)), .val (.int (u2.toInt8.toInt32)), .unset, .unset, .unset]) rfl k) ?_
    show own_Go _ _ _ _ (s₁.setTop (mkF m 13 #[.val (.int u0), .val (.int u1), .val (.int u2), .val (.int u3), .val (.int (2 : Int32)), .val (.int (u1.toInt8.toInt32)), .val (.int (u2.toInt8.toInt32)), .unset, .unset, .unset] []))
    refine own_st (fun _ k => XS.iloadN X0.here hx rfl (hb hby at_13) rfl k) ?_
    show own_Go _ _ _ _ (s₁.setTop (mkF m 14 #[.val (.int u0), .val (.int u1), .val (.int u2), .val (.int u3), .val (.int (2 : Int32)), .val (.int (u1.toInt8.toInt32)), .val (.int (u2.toInt8.toInt32)), .unset, .unset, .unset] [(.int u3)]))
    refine own_st (fun _ k => XS.i2b X0.here hx rfl (hb hby at_14) rfl k) ?_
    show own_Go _ _ _ _ (s₁.setTop (mkF m 15 #[.val (.int u0), .val (.int u1), .val (.int u2), .val (.int u3), .val (.int (2 : Int32)), .val (.int (u1.toInt8.toInt32)), .val (.int (u2.toInt8.toInt32)), .unset, .unset, .unset] [(.int (u3.toInt8.toInt32))]))
    refine own_st (fun _ k => XS.istore X0.here hx rfl (hb hby at_15) rfl (l' := #[.val (.int u0), .val (.int u1), .val (.int u2), .val (.int u3), .val (.int (2 : Int32)), .val (.int (u1.toInt8.toInt32)), .val (.int (u2.toInt8.toInt32)), .val (.int (u3.toInt8.toInt32)), .unset, .unset]) rfl k) ?_
    show own_Go _ _ _ _ (s₁.setTop (mkF m 17 #[.val (.int u0), .val (.int u1), .val (.int u2), .val (.int u3), .val (.int (2 : Int32)), .val (.int (u1.toInt8.toInt32)), .val (.int (u2.toInt8.toInt32)), .val (.int (u3.toInt8.toInt32)), .unset, .unset] []))
    refine own_st (fun _ k => XS.iload X0.here hx rfl (hb hby at_17) rfl k) ?_
    show own_Go _ _ _ _ (s₁.setTop (mkF m 19 #[.val (.int u0), .val (.int u1), .val (.int u2), .val (.int u3), .val (.int (2 : Int32)), .val (.int (u1.toInt8.toInt32)), .val (.int (u2.toInt8.toInt32)), .val (.int (u3.toInt8.toInt32)), .unset, .unset] [(.int (2 : Int32))]))
    refine own_st (fun _ k => XS.ifYes X0.here hx rfl (pc0 := 19) (pc' := 30) rfl (hb hby at_19) rfl ((if0 _ _).trans (feq (by decide : ¬ ((2 : Int32) = (0 : Int32)))).2) (by decide) (by decide) k) ?_
    show own_Go _ _ _ _ (s₁.setTop (mkF m 30 #[.val (.int u0), .val (.int u1), .val (.int u2), .val (.int u3), .val (.int (2 : Int32)), .val (.int (u1.toInt8.toInt32)), .val (.int (u2.toInt8.toInt32)), .val (.int (u3.toInt8.toInt32)), .unset, .unset] []))
    refine own_st (fun _ k => XS.iload X0.here hx rfl (hb hby at_30) rfl k) ?_
    show own_Go _ _ _ _ (s₁.setTop (mkF m 32 #[.val (.int u0), .val (.int u1), .val (.int u2), .val (.int u3), .val (.int (2 : Int32)), .val (.int (u1.toInt8.toInt32)), .val (.int (u2.toInt8.toInt32)), .val (.int (u3.toInt8.toInt32)), .unset, .unset] [(.int (2 : Int32))]))
    refine own_st (fun _ k => XS.iconst X0.here hx rfl (hb hby at_32) k) ?_
    show own_Go _ _ _ _ (s₁.setTop (mkF m 33 #[.val (.int u0), .val (.int u1), .val (.int u2), .val (.int u3), .val (.int (2 : Int32)), .val (.int (u1.toInt8.toInt32)), .val (.int (u2.toInt8.toInt32)), .val (.int (u3.toInt8.toInt32)), .unset, .unset] [(.int (1 : Int32)), (.int (2 : Int32))]))
    refine own_st (fun _ k => XS.icmpYes X0.here hx rfl (pc0 := 33) (pc' := 49) rfl (hb hby at_33) rfl (feq (by decide : ¬ ((2 : Int32) = (1 : Int32)))).2 (by decide) (by decide) k) ?_
    show own_Go _ _ _ _ (s₁.setTop (mkF m 49 #[.val (.int u0), .val (.int u1), .val (.int u2), .val (.int u3), .val (.int (2 : Int32)), .val (.int (u1.toInt8.toInt32)), .val (.int (u2.toInt8.toInt32)), .val (.int (u3.toInt8.toInt32)), .unset, .unset] []))
    refine own_st (fun _ k => XS.iload X0.here hx rfl (hb hby at_49) rfl k) ?_
    show own_Go _ _ _ _ (s₁.setTop (mkF m 51 #[.val (.int u0), .val (.int u1), .val (.int u2), .val (.int u3), .val (.int (2 : Int32)), .val (.int (u1.toInt8.toInt32)), .val (.int (u2.toInt8.toInt32)), .val (.int (u3.toInt8.toInt32)), .unset, .unset] [(.int (2 : Int32))]))
    refine own_st (fun _ k => XS.iconst X0.here hx rfl (hb hby at_51) k) ?_
    show own_Go _ _ _ _ (s₁.setTop (mkF m 52 #[.val (.int u0), .val (.int u1), .val (.int u2), .val (.int u3), .val (.int (2 : Int32)), .val (.int (u1.toInt8.toInt32)), .val (.int (u2.toInt8.toInt32)), .val (.int (u3.toInt8.toInt32)), .unset, .unset] [(.int (2 : Int32)), (.int (2 : Int32))]))
    refine own_st (fun _ k => XS.icmpNo X0.here hx rfl (hb hby at_52) rfl (teq (by decide : ((2 : Int32) = (2 : Int32)))).2 k) ?_
    show own_Go _ _ _ _ (s₁.setTop (mkF m 55 #[.val (.int u0), .val (.int u1), .val (.int u2), .val (.int u3), .val (.int (2 : Int32)), .val (.int (u1.toInt8.toInt32)), .val (.int (u2.toInt8.toInt32)), .val (.int (u3.toInt8.toInt32)), .unset, .unset] []))
    refine own_st (fun _ k => XS.iconst X0.here hx rfl (hb hby at_55) k) ?_
    show own_Go _ _ _ _ (s₁.setTop (mkF m 56 #[.val (.int u0), .val (.int u1), .val (.int u2), .val (.int u3), .val (.int (2 : Int32)), .val (.int (u1.toInt8.toInt32)), .val (.int (u2.toInt8.toInt32)), .val (.int (u3.toInt8.toInt32)), .unset, .unset] [(.int (2 : Int32))]))
    obtain ⟨T55, h55, k55, X55, e55, E55, A55, st55⟩ := newP X0 hx hZ (hw _ (List.mem_of_getElem? (i := 0) rfl)) e0 (g := (mkF m 56 #[.val (.int u0), .val (.int u1), .val (.int u2), .val (.int u3), .val (.int (2 : Int32)), .val (.int (u1.toInt8.toInt32)), .val (.int (u2.toInt8.toInt32)), .val (.int (u3.toInt8.toInt32)), .unset, .unset] [(.int (2 : Int32))])) rfl (hb hby at_56) rfl (by decide : ¬ ((2 : Int32) < (0 : Int32))) (cap := 2) (by decide : ((2 : Int32)).toNatClampNeg ≤ 2) (by decide) (by decide) (by decide)
    obtain ⟨b55, g55⟩ : ∃ z, z = h0.size := ⟨_, rfl⟩
    rw [← g55] at A55 st55
    refine own_st st55 ?_
    have Z55 : n0 ≤ h55.size := Nat.le_trans Z0 E55.1
    have gnb55 : n0 ≤ b55 := Nat.le_trans Z0 (Nat.le_of_eq g55.symm)
    have gkb55 : h0.size ≤ b55 := Nat.le_trans K0.1 (Nat.le_of_eq g55.symm)
    have K55 : Keep h0 h55 [] := K0.ext E55
    have V55 : Arv Z h55 b55 k55 .byte (2 : Int32) [(.int (0 : Int32)), (.int (0 : Int32))] (.int (0 : Int32)) := (Arv.new A55 (by decide : ¬ ((2 : Int32) < (0 : Int32)))).pad (pad_rep [] (.int (0 : Int32)) 2)
    show own_Go _ _ _ _ (T55.setTop (mkF m 58 #[.val (.int u0), .val (.int u1), .val (.int u2), .val (.int u3), .val (.int (2 : Int32)), .val (.int (u1.toInt8.toInt32)), .val (.int (u2.toInt8.toInt32)), .val (.int (u3.toInt8.toInt32)), .unset, .unset] [(.ref b55)]))
    refine own_st (fun _ k => XS.dup X55.here hx rfl (hb hby at_58) rfl rfl k) ?_
    show own_Go _ _ _ _ (T55.setTop (mkF m 59 #[.val (.int u0), .val (.int u1), .val (.int u2), .val (.int u3), .val (.int (2 : Int32)), .val (.int (u1.toInt8.toInt32)), .val (.int (u2.toInt8.toInt32)), .val (.int (u3.toInt8.toInt32)), .unset, .unset] [(.ref b55), (.ref b55)]))
    refine own_st (fun _ k => XS.iconst X55.here hx rfl (hb hby at_59) k) ?_
    show own_Go _ _ _ _ (T55.setTop (mkF m 60 #[.val (.int u0), .val (.int u1), .val (.int u2), .val (.int u3), .val (.int (2 : Int32)), .val (.int (u1.toInt8.toInt32)), .val (.int (u2.toInt8.toInt32)), .val (.int (u3.toInt8.toInt32)), .unset, .unset] [(.int (0 : Int32)), (.ref b55), (.ref b55)]))
    refine own_st (fun _ k => XS.iload X55.here hx rfl (hb hby at_60) rfl k) ?_
    show own_Go _ _ _ _ (T55.setTop (mkF m 62 #[.val (.int u0), .val (.int u1), .val (.int u2), .val (.int u3), .val (.int (2 : Int32)), .val (.int (u1.toInt8.toInt32)), .val (.int (u2.toInt8.toInt32)), .val (.int (u3.toInt8.toInt32)), .unset, .unset] [(.int (u1.toInt8.toInt32)), (.int (0 : Int32)), (.ref b55), (.ref b55)]))
    obtain ⟨cl56, Ar56, Kd56, Sz56, Nn56, Hs56, Gs56⟩ := id V55
    obtain ⟨T56, h56, X56, e56, W56, st56⟩ := stB X55 hx hZ e55 Ar56 (j := (0 : Int32)) (inb_of Sz56 ⟨(by decide : ¬ ((0 : Int32) < (0 : Int32))), (by decide : (0 : Int32) < (2 : Int32))⟩) (g := (mkF m 62 #[.val (.int u0), .val (.int u1), .val (.int u2), .val (.int u3), .val (.int (2 : Int32)), .val (.int (u1.toInt8.toInt32)), .val (.int (u2.toInt8.toInt32)), .val (.int (u3.toInt8.toInt32)), .unset, .unset] [(.int (u1.toInt8.toInt32)), (.int (0 : Int32)), (.ref b55), (.ref b55)])) rfl rfl (hb hby at_62)
    refine own_st st56 ?_
    have V56 := Arv.set Ar56 Kd56 Sz56 Nn56 Hs56 Gs56 (fits_nar_byte _) W56 0 rfl (Nat.le_of_ble_eq_true rfl)
    have V56' : Arv Z h56 b55 k55 .byte (2 : Int32) [(.int (u1.toInt8.toInt32)), (.int (0 : Int32))] (.int (0 : Int32)) := by have q := V56; rw [own_narB] at q; exact q
    have Z56 : n0 ≤ h56.size := Nat.le_trans Z55 (Nat.le_of_eq W56.size.symm)
    have N56 := Fr.snoc X56 N0 gnb55
    have K56 : Keep h0 h56 [] := K55.wr W56 (Or.inr gkb55)
    show own_Go _ _ _ _ (T56.setTop (mkF m 63 #[.val (.int u0), .val (.int u1), .val (.int u2), .val (.int u3), .val (.int (2 : Int32)), .val (.int (u1.toInt8.toInt32)), .val (.int (u2.toInt8.toInt32)), .val (.int (u3.toInt8.toInt32)), .unset, .unset] [(.ref b55)]))
    refine own_st (fun _ k => XS.dup X56.here hx rfl (hb hby at_63) rfl rfl k) ?_
    show own_Go _ _ _ _ (T56.setTop (mkF m 64 #[.val (.int u0), .val (.int u1), .val (.int u2), .val (.int u3), .val (.int (2 : Int32)), .val (.int (u1.toInt8.toInt32)), .val (.int (u2.toInt8.toInt32)), .val (.int (u3.toInt8.toInt32)), .unset, .unset] [(.ref b55), (.ref b55)]))
    refine own_st (fun _ k => XS.iconst X56.here hx rfl (hb hby at_64) k) ?_
    show own_Go _ _ _ _ (T56.setTop (mkF m 65 #[.val (.int u0), .val (.int u1), .val (.int u2), .val (.int u3), .val (.int (2 : Int32)), .val (.int (u1.toInt8.toInt32)), .val (.int (u2.toInt8.toInt32)), .val (.int (u3.toInt8.toInt32)), .unset, .unset] [(.int (1 : Int32)), (.ref b55), (.ref b55)]))
    refine own_st (fun _ k => XS.iload X56.here hx rfl (hb hby at_65) rfl k) ?_
    show own_Go _ _ _ _ (T56.setTop (mkF m 67 #[.val (.int u0), .val (.int u1), .val (.int u2), .val (.int u3), .val (.int (2 : Int32)), .val (.int (u1.toInt8.toInt32)), .val (.int (u2.toInt8.toInt32)), .val (.int (u3.toInt8.toInt32)), .unset, .unset] [(.int (u2.toInt8.toInt32)), (.int (1 : Int32)), (.ref b55), (.ref b55)]))
    obtain ⟨cl57, Ar57, Kd57, Sz57, Nn57, Hs57, Gs57⟩ := id V56'
    obtain ⟨T57, h57, X57, e57, W57, st57⟩ := stB X56 hx hZ e56 Ar57 (j := (1 : Int32)) (inb_of Sz57 ⟨(by decide : ¬ ((1 : Int32) < (0 : Int32))), (by decide : (1 : Int32) < (2 : Int32))⟩) (g := (mkF m 67 #[.val (.int u0), .val (.int u1), .val (.int u2), .val (.int u3), .val (.int (2 : Int32)), .val (.int (u1.toInt8.toInt32)), .val (.int (u2.toInt8.toInt32)), .val (.int (u3.toInt8.toInt32)), .unset, .unset] [(.int (u2.toInt8.toInt32)), (.int (1 : Int32)), (.ref b55), (.ref b55)])) rfl rfl (hb hby at_67)
    refine own_st st57 ?_
    have V57 := Arv.set Ar57 Kd57 Sz57 Nn57 Hs57 Gs57 (fits_nar_byte _) W57 1 rfl (Nat.le_of_ble_eq_true rfl)
    have V57' : Arv Z h57 b55 k55 .byte (2 : Int32) [(.int (u1.toInt8.toInt32)), (.int (u2.toInt8.toInt32))] (.int (0 : Int32)) := by have q := V57; rw [own_narB] at q; exact q
    have Z57 : n0 ≤ h57.size := Nat.le_trans Z56 (Nat.le_of_eq W57.size.symm)
    have N57 := Fr.snoc X57 N56 gnb55
    have K57 : Keep h0 h57 [] := K56.wr W57 (Or.inr gkb55)
    show own_Go _ _ _ _ (T57.setTop (mkF m 68 #[.val (.int u0), .val (.int u1), .val (.int u2), .val (.int u3), .val (.int (2 : Int32)), .val (.int (u1.toInt8.toInt32)), .val (.int (u2.toInt8.toInt32)), .val (.int (u3.toInt8.toInt32)), .unset, .unset] [(.ref b55)]))
    refine own_st (fun _ k => XS.astore X57.here hx rfl (hb hby at_68) rfl rfl (l' := #[.val (.int u0), .val (.int u1), .val (.int u2), .val (.int u3), .val (.int (2 : Int32)), .val (.int (u1.toInt8.toInt32)), .val (.int (u2.toInt8.toInt32)), .val (.int (u3.toInt8.toInt32)), .val (.ref b55), .unset]) rfl k) ?_
    show own_Go _ _ _ _ (T57.setTop (mkF m 70 #[.val (.int u0), .val (.int u1), .val (.int u2), .val (.int u3), .val (.int (2 : Int32)), .val (.int (u1.toInt8.toInt32)), .val (.int (u2.toInt8.toInt32)), .val (.int (u3.toInt8.toInt32)), .val (.ref b55), .unset] []))
    refine own_st (fun _ k => XS.goto X57.here hx rfl (pc0 := 70) (pc' := 93) rfl (hb hby at_70) (by decide) (by decide) k) ?_
    show own_Go _ _ _ _ (T57.setTop (mkF m 93 #[.val (.int u0), .val (.int u1), .val (.int u2), .val (.int u3), .val (.int (2 : Int32)), .val (.int (u1.toInt8.toInt32)), .val (.int (u2.toInt8.toInt32)), .val (.int (u3.toInt8.toInt32)), .val (.ref b55), .unset] []))
    refine own_st (fun _ k => XS.aload X57.here hx rfl (hb hby at_93) rfl rfl k) ?_
    show own_Go _ _ _ _ (T57.setTop (mkF m 95 #[.val (.int u0), .val (.int u1), .val (.int u2), .val (.int u3), .val (.int (2 : Int32)), .val (.int (u1.toInt8.toInt32)), .val (.int (u2.toInt8.toInt32)), .val (.int (u3.toInt8.toInt32)), .val (.ref b55), .unset] [(.ref b55)]))
    obtain ⟨_, _, ⟨T58, L58, k58, n58⟩, -, X58, ⟨Lc58, hQ58, l58, y58, z58⟩, st58⟩ := Jvm.LawKit.callS X57 hx (y := (⟨"quillvax/mllp/Mllp", "frame", "([B)[B"⟩ : MethodName)) hown (mvT hZ (hw _ (List.mem_of_getElem? (i := 1) rfl))) (mvT hZ (hw _ (List.mem_of_getElem? (i := 2) rfl))) (mvT hZ (hw _ (List.mem_of_getElem? (i := 3) rfl))) (mvT hZ (hw _ (List.mem_of_getElem? (i := 4) rfl))) (by decide) (backOf (W := 0) (rm1_2 l Z a0 hw [] b55 k55 (u1.toInt8.toInt32) (u2.toInt8.toInt32) h57 n0 Z57 V57') hZ (hw _ (List.mem_of_getElem? (i := 4) rfl)) (hw _ (List.mem_of_getElem? (i := 3) rfl)) (by decide) (by decide)) (g := (mkF m 95 #[.val (.int u0), .val (.int u1), .val (.int u2), .val (.int u3), .val (.int (2 : Int32)), .val (.int (u1.toInt8.toInt32)), .val (.int (u2.toInt8.toInt32)), .val (.int (u3.toInt8.toInt32)), .val (.ref b55), .unset] [(.ref b55)])) rfl (by rw [hml]; rfl) (argsL := [(.ref b55)]) (rest := []) (lenOf own_pd0 rfl) rfl (by show 2 * 0 + _ ≤ _; exact Nat.le_of_eq rfl) (hb hby at_95) (fun _ _ => ⟨rfl, e57, (by decide : 1 + 1 ≤ _), (by decide : 2 + 6 ≤ _)⟩)
    dsimp only [Pt.U, Pt.locs, Pt.cells, Pt.slots] at X58 l58 y58 z58 st58 hQ58
    subst l58 y58 z58
    obtain ⟨bq58, kq58, rfl, Nq58, Kq58, gq58, Vq58⟩ := hQ58
    have N58 := Fr.app N57 Nq58
    refine own_st st58 ?_
    have neb55_bq58 : b55 ≠ bq58 := Nat.ne_of_lt (Nat.lt_of_lt_of_le V57'.lt gq58)
    have gnbq58 : n0 ≤ bq58 := Nat.le_trans Z57 gq58
    have gkbq58 : h0.size ≤ bq58 := Nat.le_trans K57.1 gq58
    have z58_V_b55 := V57'.keep Kq58 nin0
    have Z58 : n0 ≤ T58.heap.size := Nat.le_trans Z57 Kq58.1
    have Kk58 : Keep h0 T58.heap [] := K57.trans Kq58 all0
    show own_Go _ _ _ _ (T58.setTop (mkF m 98 #[.val (.int u0), .val (.int u1), .val (.int u2), .val (.int u3), .val (.int (2 : Int32)), .val (.int (u1.toInt8.toInt32)), .val (.int (u2.toInt8.toInt32)), .val (.int (u3.toInt8.toInt32)), .val (.ref b55), .unset] [(.ref bq58)]))
    refine own_st (fun _ k => XS.astore X58.here hx rfl (hb hby at_98) rfl rfl (l' := #[.val (.int u0), .val (.int u1), .val (.int u2), .val (.int u3), .val (.int (2 : Int32)), .val (.int (u1.toInt8.toInt32)), .val (.int (u2.toInt8.toInt32)), .val (.int (u3.toInt8.toInt32)), .val (.ref b55), .val (.ref bq58)]) rfl k) ?_
    show own_Go _ _ _ _ (T58.setTop (mkF m 100 #[.val (.int u0), .val (.int u1), .val (.int u2), .val (.int u3), .val (.int (2 : Int32)), .val (.int (u1.toInt8.toInt32)), .val (.int (u2.toInt8.toInt32)), .val (.int (u3.toInt8.toInt32)), .val (.ref b55), .val (.ref bq58)] []))
    refine own_st (fun _ k => XS.aload X58.here hx rfl (hb hby at_100) rfl rfl k) ?_
    show own_Go _ _ _ _ (T58.setTop (mkF m 102 #[.val (.int u0), .val (.int u1), .val (.int u2), .val (.int u3), .val (.int (2 : Int32)), .val (.int (u1.toInt8.toInt32)), .val (.int (u2.toInt8.toInt32)), .val (.int (u3.toInt8.toInt32)), .val (.ref b55), .val (.ref bq58)] [(.ref bq58)]))
    refine own_st (fun _ k => XS.ifnullNo X58.here hx rfl (hb hby at_102) rfl k) ?_
    show own_Go _ _ _ _ (T58.setTop (mkF m 105 #[.val (.int u0), .val (.int u1), .val (.int u2), .val (.int u3), .val (.int (2 : Int32)), .val (.int (u1.toInt8.toInt32)), .val (.int (u2.toInt8.toInt32)), .val (.int (u3.toInt8.toInt32)), .val (.ref b55), .val (.ref bq58)] []))
    refine own_st (fun _ k => XS.aload X58.here hx rfl (hb hby at_105) rfl rfl k) ?_
    show own_Go _ _ _ _ (T58.setTop (mkF m 107 #[.val (.int u0), .val (.int u1), .val (.int u2), .val (.int u3), .val (.int (2 : Int32)), .val (.int (u1.toInt8.toInt32)), .val (.int (u2.toInt8.toInt32)), .val (.int (u3.toInt8.toInt32)), .val (.ref b55), .val (.ref bq58)] [(.ref bq58)]))
    obtain ⟨cl59, Ar59, -, Sz59, Nn59, -, -⟩ := id Vq58
    refine own_st (X58.arraylength hx Ar59.1 (State.isArrayOf_alike hZ.alike Ar59.2.1) (g := (mkF m 107 #[.val (.int u0), .val (.int u1), .val (.int u2), .val (.int u3), .val (.int (2 : Int32)), .val (.int (u1.toInt8.toInt32)), .val (.int (u2.toInt8.toInt32)), .val (.int (u3.toInt8.toInt32)), .val (.ref b55), .val (.ref bq58)] [(.ref bq58)])) rfl rfl (hb hby at_107)) ?_
    rw [len_of Sz59 Nn59]
    show own_Go _ _ _ _ (T58.setTop (mkF m 108 #[.val (.int u0), .val (.int u1), .val (.int u2), .val (.int u3), .val (.int (2 : Int32)), .val (.int (u1.toInt8.toInt32)), .val (.int (u2.toInt8.toInt32)), .val (.int (u3.toInt8.toInt32)), .val (.ref b55), .val (.ref bq58)] [(.int (5 : Int32))]))
    refine own_st (fun _ k => XS.iload X58.here hx rfl (hb hby at_108) rfl k) ?_
    show own_Go _ _ _ _ (T58.setTop (mkF m 110 #[.val (.int u0), .val (.int u1), .val (.int u2), .val (.int u3), .val (.int (2 : Int32)), .val (.int (u1.toInt8.toInt32)), .val (.int (u2.toInt8.toInt32)), .val (.int (u3.toInt8.toInt32)), .val (.ref b55), .val (.ref bq58)] [(.int (2 : Int32)), (.int (5 : Int32))]))
    refine own_st (fun _ k => XS.iconst X58.here hx rfl (hb hby at_110) k) ?_
    show own_Go _ _ _ _ (T58.setTop (mkF m 111 #[.val (.int u0), .val (.int u1), .val (.int u2), .val (.int u3), .val (.int (2 : Int32)), .val (.int (u1.toInt8.toInt32)), .val (.int (u2.toInt8.toInt32)), .val (.int (u3.toInt8.toInt32)), .val (.ref b55), .val (.ref bq58)] [(.int (3 : Int32)), (.int (2 : Int32)), (.int (5 : Int32))]))
    refine own_st (fun _ k => XS.iadd X58.here hx rfl (hb hby at_111) rfl k) ?_
    show own_Go _ _ _ _ (T58.setTop (mkF m 112 #[.val (.int u0), .val (.int u1), .val (.int u2), .val (.int u3), .val (.int (2 : Int32)), .val (.int (u1.toInt8.toInt32)), .val (.int (u2.toInt8.toInt32)), .val (.int (u3.toInt8.toInt32)), .val (.ref b55), .val (.ref bq58)] [(.int (5 : Int32)), (.int (5 : Int32))]))
    refine own_st (fun _ k => XS.icmpYes X58.here hx rfl (pc0 := 112) (pc' := 117) rfl (hb hby at_112) rfl (teq (by decide : ((5 : Int32) = (5 : Int32)))).1 (by decide) (by decide) k) ?_
    show own_Go _ _ _ _ (T58.setTop (mkF m 117 #[.val (.int u0), .val (.int u1), .val (.int u2), .val (.int u3), .val (.int (2 : Int32)), .val (.int (u1.toInt8.toInt32)), .val (.int (u2.toInt8.toInt32)), .val (.int (u3.toInt8.toInt32)), .val (.ref b55), .val (.ref bq58)] []))
    refine own_st (fun _ k => XS.aload X58.here hx rfl (hb hby at_117) rfl rfl k) ?_
    show own_Go _ _ _ _ (T58.setTop (mkF m 119 #[.val (.int u0), .val (.int u1), .val (.int u2), .val (.int u3), .val (.int (2 : Int32)), .val (.int (u1.toInt8.toInt32)), .val (.int (u2.toInt8.toInt32)), .val (.int (u3.toInt8.toInt32)), .val (.ref b55), .val (.ref bq58)] [(.ref bq58)]))
    refine own_st (fun _ k => XS.iconst X58.here hx rfl (hb hby at_119) k) ?_
    show own_Go _ _ _ _ (T58.setTop (mkF m 120 #[.val (.int u0), .val (.int u1), .val (.int u2), .val (.int u3), .val (.int (2 : Int32)), .val (.int (u1.toInt8.toInt32)), .val (.int (u2.toInt8.toInt32)), .val (.int (u3.toInt8.toInt32)), .val (.ref b55), .val (.ref bq58)] [(.int (0 : Int32)), (.ref bq58)]))
    obtain ⟨cl60, Ar60, -, Sz60, Nn60, Hs60, -⟩ := id Vq58
    have hin60 : ¬ ((0 : Int32) < 0 ∨ cl60.slots.size ≤ ((0 : Int32)).toNatClampNeg) := inb_of Sz60 ⟨(by decide : ¬ ((0 : Int32) < (0 : Int32))), (by decide : (0 : Int32) < (5 : Int32))⟩
    have hat60 : cl60.slots[((0 : Int32)).toNatClampNeg]? = some (.int (11 : Int32)) := Hs60.at hin60 rfl
    refine own_st (X58.baloadBytes hx (j := (0 : Int32)) (v := (.int (11 : Int32))) Ar60.1 (State.isArrayOf_alike hZ.alike Ar60.2.1) Ar60.2.2 hin60 hat60 (g := (mkF m 120 #[.val (.int u0), .val (.int u1), .val (.int u2), .val (.int u3), .val (.int (2 : Int32)), .val (.int (u1.toInt8.toInt32)), .val (.int (u2.toInt8.toInt32)), .val (.int (u3.toInt8.toInt32)), .val (.ref b55), .val (.ref bq58)] [(.int (0 : Int32)), (.ref bq58)])) rfl rfl (hb hby at_120)) ?_
    show own_Go _ _ _ _ (T58.setTop (mkF m 121 #[.val (.int u0), .val (.int u1), .val (.int u2), .val (.int u3), .val (.int (2 : Int32)), .val (.int (u1.toInt8.toInt32)), .val (.int (u2.toInt8.toInt32)), .val (.int (u3.toInt8.toInt32)), .val (.ref b55), .val (.ref bq58)] [(.int (11 : Int32))]))
    refine own_st (fun _ k => XS.bipush X58.here hx rfl (hb hby at_121) k) ?_
    show own_Go _ _ _ _ (T58.setTop (mkF m 123 #[.val (.int u0), .val (.int u1), .val (.int u2), .val (.int u3), .val (.int (2 : Int32)), .val (.int (u1.toInt8.toInt32)), .val (.int (u2.toInt8.toInt32)), .val (.int (u3.toInt8.toInt32)), .val (.ref b55), .val (.ref bq58)] [(.int (11 : Int32)), (.int (11 : Int32))]))
    refine own_st (fun _ k => XS.icmpYes X58.here hx rfl (pc0 := 123) (pc' := 128) rfl (hb hby at_123) rfl (teq (by decide : ((11 : Int32) = (11 : Int32)))).1 (by decide) (by decide) k) ?_
    show own_Go _ _ _ _ (T58.setTop (mkF m 128 #[.val (.int u0), .val (.int u1), .val (.int u2), .val (.int u3), .val (.int (2 : Int32)), .val (.int (u1.toInt8.toInt32)), .val (.int (u2.toInt8.toInt32)), .val (.int (u3.toInt8.toInt32)), .val (.ref b55), .val (.ref bq58)] []))
    refine own_st (fun _ k => XS.iload X58.here hx rfl (hb hby at_128) rfl k) ?_
    show own_Go _ _ _ _ (T58.setTop (mkF m 130 #[.val (.int u0), .val (.int u1), .val (.int u2), .val (.int u3), .val (.int (2 : Int32)), .val (.int (u1.toInt8.toInt32)), .val (.int (u2.toInt8.toInt32)), .val (.int (u3.toInt8.toInt32)), .val (.ref b55), .val (.ref bq58)] [(.int (2 : Int32))]))
    refine own_st (fun _ k => XS.iconst X58.here hx rfl (hb hby at_130) k) ?_
    show own_Go _ _ _ _ (T58.setTop (mkF m 131 #[.val (.int u0), .val (.int u1), .val (.int u2), .val (.int u3), .val (.int (2 : Int32)), .val (.int (u1.toInt8.toInt32)), .val (.int (u2.toInt8.toInt32)), .val (.int (u3.toInt8.toInt32)), .val (.ref b55), .val (.ref bq58)] [(.int (1 : Int32)), (.int (2 : Int32))]))
    refine own_st (fun _ k => XS.icmpNo X58.here hx rfl (hb hby at_131) rfl (flt (by decide : ¬ ((2 : Int32) < (1 : Int32)))).1 k) ?_
    show own_Go _ _ _ _ (T58.setTop (mkF m 134 #[.val (.int u0), .val (.int u1), .val (.int u2), .val (.int u3), .val (.int (2 : Int32)), .val (.int (u1.toInt8.toInt32)), .val (.int (u2.toInt8.toInt32)), .val (.int (u3.toInt8.toInt32)), .val (.ref b55), .val (.ref bq58)] []))
    refine own_st (fun _ k => XS.aload X58.here hx rfl (hb hby at_134) rfl rfl k) ?_
    show own_Go _ _ _ _ (T58.setTop (mkF m 136 #[.val (.int u0), .val (.int u1), .val (.int u2), .val (.int u3), .val (.int (2 : Int32)), .val (.int (u1.toInt8.toInt32)), .val (.int (u2.toInt8.toInt32)), .val (.int (u3.toInt8.toInt32)), .val (.ref b55), .val (.ref bq58)] [(.ref bq58)]))
    refine own_st (fun _ k => XS.iconst X58.here hx rfl (hb hby at_136) k) ?_
    show own_Go _ _ _ _ (T58.setTop (mkF m 137 #[.val (.int u0), .val (.int u1), .val (.int u2), .val (.int u3), .val (.int (2 : Int32)), .val (.int (u1.toInt8.toInt32)), .val (.int (u2.toInt8.toInt32)), .val (.int (u3.toInt8.toInt32)), .val (.ref b55), .val (.ref bq58)] [(.int (1 : Int32)), (.ref bq58)]))
    obtain ⟨cl61, Ar61, -, Sz61, Nn61, Hs61, -⟩ := id Vq58
    have hin61 : ¬ ((1 : Int32) < 0 ∨ cl61.slots.size ≤ ((1 : Int32)).toNatClampNeg) := inb_of Sz61 ⟨(by decide : ¬ ((1 : Int32) < (0 : Int32))), (by decide : (1 : Int32) < (5 : Int32))⟩
    have hat61 : cl61.slots[((1 : Int32)).toNatClampNeg]? = some (.int (u1.toInt8.toInt32)) := Hs61.at hin61 rfl
    refine own_st (X58.baloadBytes hx (j := (1 : Int32)) (v := (.int (u1.toInt8.toInt32))) Ar61.1 (State.isArrayOf_alike hZ.alike Ar61.2.1) Ar61.2.2 hin61 hat61 (g := (mkF m 137 #[.val (.int u0), .val (.int u1), .val (.int u2), .val (.int u3), .val (.int (2 : Int32)), .val (.int (u1.toInt8.toInt32)), .val (.int (u2.toInt8.toInt32)), .val (.int (u3.toInt8.toInt32)), .val (.ref b55), .val (.ref bq58)] [(.int (1 : Int32)), (.ref bq58)])) rfl rfl (hb hby at_137)) ?_
    show own_Go _ _ _ _ (T58.setTop (mkF m 138 #[.val (.int u0), .val (.int u1), .val (.int u2), .val (.int u3), .val (.int (2 : Int32)), .val (.int (u1.toInt8.toInt32)), .val (.int (u2.toInt8.toInt32)), .val (.int (u3.toInt8.toInt32)), .val (.ref b55), .val (.ref bq58)] [(.int (u1.toInt8.toInt32))]))
    refine own_st (fun _ k => XS.iload X58.here hx rfl (hb hby at_138) rfl k) ?_
    show own_Go _ _ _ _ (T58.setTop (mkF m 140 #[.val (.int u0), .val (.int u1), .val (.int u2), .val (.int u3), .val (.int (2 : Int32)), .val (.int (u1.toInt8.toInt32)), .val (.int (u2.toInt8.toInt32)), .val (.int (u3.toInt8.toInt32)), .val (.ref b55), .val (.ref bq58)] [(.int (u1.toInt8.toInt32)), (.int (u1.toInt8.toInt32))]))
    refine own_st (fun _ k => XS.icmpYes X58.here hx rfl (pc0 := 140) (pc' := 145) rfl (hb hby at_140) rfl (teq (rfl : (u1.toInt8.toInt32) = (u1.toInt8.toInt32))).1 (by decide) (by decide) k) ?_
    show own_Go _ _ _ _ (T58.setTop (mkF m 145 #[.val (.int u0), .val (.int u1), .val (.int u2), .val (.int u3), .val (.int (2 : Int32)), .val (.int (u1.toInt8.toInt32)), .val (.int (u2.toInt8.toInt32)), .val (.int (u3.toInt8.toInt32)), .val (.ref b55), .val (.ref bq58)] []))
    refine own_st (fun _ k => XS.iload X58.here hx rfl (hb hby at_145) rfl k) ?_
    show own_Go _ _ _ _ (T58.setTop (mkF m 147 #[.val (.int u0), .val (.int u1), .val (.int u2), .val (.int u3), .val (.int (2 : Int32)), .val (.int (u1.toInt8.toInt32)), .val (.int (u2.toInt8.toInt32)), .val (.int (u3.toInt8.toInt32)), .val (.ref b55), .val (.ref bq58)] [(.int (2 : Int32))]))
    refine own_st (fun _ k => XS.iconst X58.here hx rfl (hb hby at_147) k) ?_
    show own_Go _ _ _ _ (T58.setTop (mkF m 148 #[.val (.int u0), .val (.int u1), .val (.int u2), .val (.int u3), .val (.int (2 : Int32)), .val (.int (u1.toInt8.toInt32)), .val (.int (u2.toInt8.toInt32)), .val (.int (u3.toInt8.toInt32)), .val (.ref b55), .val (.ref bq58)] [(.int (2 : Int32)), (.int (2 : Int32))]))
    refine own_st (fun _ k => XS.icmpNo X58.here hx rfl (hb hby at_148) rfl (flt (by decide : ¬ ((2 : Int32) < (2 : Int32)))).1 k) ?_
    show own_Go _ _ _ _ (T58.setTop (mkF m 151 #[.val (.int u0), .val (.int u1), .val (.int u2), .val (.int u3), .val (.int (2 : Int32)), .val (.int (u1.toInt8.toInt32)), .val (.int (u2.toInt8.toInt32)), .val (.int (u3.toInt8.toInt32)), .val (.ref b55), .val (.ref bq58)] []))
    refine own_st (fun _ k => XS.aload X58.here hx rfl (hb hby at_151) rfl rfl k) ?_
    show own_Go _ _ _ _ (T58.setTop (mkF m 153 #[.val (.int u0), .val (.int u1), .val (.int u2), .val (.int u3), .val (.int (2 : Int32)), .val (.int (u1.toInt8.toInt32)), .val (.int (u2.toInt8.toInt32)), .val (.int (u3.toInt8.toInt32)), .val (.ref b55), .val (.ref bq58)] [(.ref bq58)]))
    refine own_st (fun _ k => XS.iconst X58.here hx rfl (hb hby at_153) k) ?_
    show own_Go _ _ _ _ (T58.setTop (mkF m 154 #[.val (.int u0), .val (.int u1), .val (.int u2), .val (.int u3), .val (.int (2 : Int32)), .val (.int (u1.toInt8.toInt32)), .val (.int (u2.toInt8.toInt32)), .val (.int (u3.toInt8.toInt32)), .val (.ref b55), .val (.ref bq58)] [(.int (2 : Int32)), (.ref bq58)]))
    obtain ⟨cl62, Ar62, -, Sz62, Nn62, Hs62, -⟩ := id Vq58
    have hin62 : ¬ ((2 : Int32) < 0 ∨ cl62.slots.size ≤ ((2 : Int32)).toNatClampNeg) := inb_of Sz62 ⟨(by decide : ¬ ((2 : Int32) < (0 : Int32))), (by decide : (2 : Int32) < (5 : Int32))⟩
    have hat62 : cl62.slots[((2 : Int32)).toNatClampNeg]? = some (.int (u2.toInt8.toInt32)) := Hs62.at hin62 rfl
    refine own_st (X58.baloadBytes hx (j := (2 : Int32)) (v := (.int (u2.toInt8.toInt32))) Ar62.1 (State.isArrayOf_alike hZ.alike Ar62.2.1) Ar62.2.2 hin62 hat62 (g := (mkF m 154 #[.val (.int u0), .val (.int u1), .val (.int u2), .val (.int u3), .val (.int (2 : Int32)), .val (.int (u1.toInt8.toInt32)), .val (.int (u2.toInt8.toInt32)), .val (.int (u3.toInt8.toInt32)), .val (.ref b55), .val (.ref bq58)] [(.int (2 : Int32)), (.ref bq58)])) rfl rfl (hb hby at_154)) ?_
    show own_Go _ _ _ _ (T58.setTop (mkF m 155 #[.val (.int u0), .val (.int u1), .val (.int u2), .val (.int u3), .val (.int (2 : Int32)), .val (.int (u1.toInt8.toInt32)), .val (.int (u2.toInt8.toInt32)), .val (.int (u3.toInt8.toInt32)), .val (.ref b55), .val (.ref bq58)] [(.int (u2.toInt8.toInt32))]))
    refine own_st (fun _ k => XS.iload X58.here hx rfl (hb hby at_155) rfl k) ?_
    show own_Go _ _ _ _ (T58.setTop (mkF m 157 #[.val (.int u0), .val (.int u1), .val (.int u2), .val (.int u3), .val (.int (2 : Int32)), .val (.int (u1.toInt8.toInt32)), .val (.int (u2.toInt8.toInt32)), .val (.int (u3.toInt8.toInt32)), .val (.ref b55), .val (.ref bq58)] [(.int (u2.toInt8.toInt32)), (.int (u2.toInt8.toInt32))]))
    refine own_st (fun _ k => XS.icmpYes X58.here hx rfl (pc0 := 157) (pc' := 162) rfl (hb hby at_157) rfl (teq (rfl : (u2.toInt8.toInt32) = (u2.toInt8.toInt32))).1 (by decide) (by decide) k) ?_
    show own_Go _ _ _ _ (T58.setTop (mkF m 162 #[.val (.int u0), .val (.int u1), .val (.int u2), .val (.int u3), .val (.int (2 : Int32)), .val (.int (u1.toInt8.toInt32)), .val (.int (u2.toInt8.toInt32)), .val (.int (u3.toInt8.toInt32)), .val (.ref b55), .val (.ref bq58)] []))
    refine own_st (fun _ k => XS.iload X58.here hx rfl (hb hby at_162) rfl k) ?_
    show own_Go _ _ _ _ (T58.setTop (mkF m 164 #[.val (.int u0), .val (.int u1), .val (.int u2), .val (.int u3), .val (.int (2 : Int32)), .val (.int (u1.toInt8.toInt32)), .val (.int (u2.toInt8.toInt32)), .val (.int (u3.toInt8.toInt32)), .val (.ref b55), .val (.ref bq58)] [(.int (2 : Int32))]))
    refine own_st (fun _ k => XS.iconst X58.here hx rfl (hb hby at_164) k) ?_
    show own_Go _ _ _ _ (T58.setTop (mkF m 165 #[.val (.int u0), .val (.int u1), .val (.int u2), .val (.int u3), .val (.int (2 : Int32)), .val (.int (u1.toInt8.toInt32)), .val (.int (u2.toInt8.toInt32)), .val (.int (u3.toInt8.toInt32)), .val (.ref b55), .val (.ref bq58)] [(.int (3 : Int32)), (.int (2 : Int32))]))
    refine own_st (fun _ k => XS.icmpYes X58.here hx rfl (pc0 := 165) (pc' := 179) rfl (hb hby at_165) rfl (tlt (by decide : ((2 : Int32) < (3 : Int32)))).1 (by decide) (by decide) k) ?_
    show own_Go _ _ _ _ (T58.setTop (mkF m 179 #[.val (.int u0), .val (.int u1), .val (.int u2), .val (.int u3), .val (.int (2 : Int32)), .val (.int (u1.toInt8.toInt32)), .val (.int (u2.toInt8.toInt32)), .val (.int (u3.toInt8.toInt32)), .val (.ref b55), .val (.ref bq58)] []))
    refine own_st (fun _ k => XS.aload X58.here hx rfl (hb hby at_179) rfl rfl k) ?_
    show own_Go _ _ _ _ (T58.setTop (mkF m 181 #[.val (.int u0), .val (.int u1), .val (.int u2), .val (.int u3), .val (.int (2 : Int32)), .val (.int (u1.toInt8.toInt32)), .val (.int (u2.toInt8.toInt32)), .val (.int (u3.toInt8.toInt32)), .val (.ref b55), .val (.ref bq58)] [(.ref bq58)]))
    refine own_st (fun _ k => XS.iload X58.here hx rfl (hb hby at_181) rfl k) ?_
    show own_Go _ _ _ _ (T58.setTop (mkF m 183 #[.val (.int u0), .val (.int u1), .val (.int u2), .val (.int u3), .val (.int (2 : Int32)), .val (.int (u1.toInt8.toInt32)), .val (.int (u2.toInt8.toInt32)), .val (.int (u3.toInt8.toInt32)), .val (.ref b55), .val (.ref bq58)] [(.int (2 : Int32)), (.ref bq58)]))
    refine own_st (fun _ k => XS.iconst X58.here hx rfl (hb hby at_183) k) ?_
    show own_Go _ _ _ _ (T58.setTop (mkF m 184 #[.val (.int u0), .val (.int u1), .val (.int u2), .val (.int u3), .val (.int (2 : Int32)), .val (.int (u1.toInt8.toInt32)), .val (.int (u2.toInt8.toInt32)), .val (.int (u3.toInt8.toInt32)), .val (.ref b55), .val (.ref bq58)] [(.int (1 : Int32)), (.int (2 : Int32)), (.ref bq58)]))
    refine own_st (fun _ k => XS.iadd X58.here hx rfl (hb hby at_184) rfl k) ?_
    show own_Go _ _ _ _ (T58.setTop (mkF m 185 #[.val (.int u0), .val (.int u1), .val (.int u2), .val (.int u3), .val (.int (2 : Int32)), .val (.int (u1.toInt8.toInt32)), .val (.int (u2.toInt8.toInt32)), .val (.int (u3.toInt8.toInt32)), .val (.ref b55), .val (.ref bq58)] [(.int (3 : Int32)), (.ref bq58)]))
    obtain ⟨cl63, Ar63, -, Sz63, Nn63, Hs63, -⟩ := id Vq58
    have hin63 : ¬ ((3 : Int32) < 0 ∨ cl63.slots.size ≤ ((3 : Int32)).toNatClampNeg) := inb_of Sz63 ⟨(by decide : ¬ ((3 : Int32) < (0 : Int32))), (by decide : (3 : Int32) < (5 : Int32))⟩
    have hat63 : cl63.slots[((3 : Int32)).toNatClampNeg]? = some (.int (28 : Int32)) := Hs63.at hin63 rfl
    refine own_st (X58.baloadBytes hx (j := (3 : Int32)) (v := (.int (28 : Int32))) Ar63.1 (State.isArrayOf_alike hZ.alike Ar63.2.1) Ar63.2.2 hin63 hat63 (g := (mkF m 185 #[.val (.int u0), .val (.int u1), .val (.int u2), .val (.int u3), .val (.int (2 : Int32)), .val (.int (u1.toInt8.toInt32)), .val (.int (u2.toInt8.toInt32)), .val (.int (u3.toInt8.toInt32)), .val (.ref b55), .val (.ref bq58)] [(.int (3 : Int32)), (.ref bq58)])) rfl rfl (hb hby at_185)) ?_
    show own_Go _ _ _ _ (T58.setTop (mkF m 186 #[.val (.int u0), .val (.int u1), .val (.int u2), .val (.int u3), .val (.int (2 : Int32)), .val (.int (u1.toInt8.toInt32)), .val (.int (u2.toInt8.toInt32)), .val (.int (u3.toInt8.toInt32)), .val (.ref b55), .val (.ref bq58)] [(.int (28 : Int32))]))
    refine own_st (fun _ k => XS.bipush X58.here hx rfl (hb hby at_186) k) ?_
    show own_Go _ _ _ _ (T58.setTop (mkF m 188 #[.val (.int u0), .val (.int u1), .val (.int u2), .val (.int u3), .val (.int (2 : Int32)), .val (.int (u1.toInt8.toInt32)), .val (.int (u2.toInt8.toInt32)), .val (.int (u3.toInt8.toInt32)), .val (.ref b55), .val (.ref bq58)] [(.int (28 : Int32)), (.int (28 : Int32))]))
    refine own_st (fun _ k => XS.icmpNo X58.here hx rfl (hb hby at_188) rfl (teq (by decide : ((28 : Int32) = (28 : Int32)))).2 k) ?_
    show own_Go _ _ _ _ (T58.setTop (mkF m 191 #[.val (.int u0), .val (.int u1), .val (.int u2), .val (.int u3), .val (.int (2 : Int32)), .val (.int (u1.toInt8.toInt32)), .val (.int (u2.toInt8.toInt32)), .val (.int (u3.toInt8.toInt32)), .val (.ref b55), .val (.ref bq58)] []))
    refine own_st (fun _ k => XS.aload X58.here hx rfl (hb hby at_191) rfl rfl k) ?_
    show own_Go _ _ _ _ (T58.setTop (mkF m 193 #[.val (.int u0), .val (.int u1), .val (.int u2), .val (.int u3), .val (.int (2 : Int32)), .val (.int (u1.toInt8.toInt32)), .val (.int (u2.toInt8.toInt32)), .val (.int (u3.toInt8.toInt32)), .val (.ref b55), .val (.ref bq58)] [(.ref bq58)]))
    refine own_st (fun _ k => XS.iload X58.here hx rfl (hb hby at_193) rfl k) ?_
    show own_Go _ _ _ _ (T58.setTop (mkF m 195 #[.val (.int u0), .val (.int u1), .val (.int u2), .val (.int u3), .val (.int (2 : Int32)), .val (.int (u1.toInt8.toInt32)), .val (.int (u2.toInt8.toInt32)), .val (.int (u3.toInt8.toInt32)), .val (.ref b55), .val (.ref bq58)] [(.int (2 : Int32)), (.ref bq58)]))
    refine own_st (fun _ k => XS.iconst X58.here hx rfl (hb hby at_195) k) ?_
    show own_Go _ _ _ _ (T58.setTop (mkF m 196 #[.val (.int u0), .val (.int u1), .val (.int u2), .val (.int u3), .val (.int (2 : Int32)), .val (.int (u1.toInt8.toInt32)), .val (.int (u2.toInt8.toInt32)), .val (.int (u3.toInt8.toInt32)), .val (.ref b55), .val (.ref bq58)] [(.int (2 : Int32)), (.int (2 : Int32)), (.ref bq58)]))
    refine own_st (fun _ k => XS.iadd X58.here hx rfl (hb hby at_196) rfl k) ?_
    show own_Go _ _ _ _ (T58.setTop (mkF m 197 #[.val (.int u0), .val (.int u1), .val (.int u2), .val (.int u3), .val (.int (2 : Int32)), .val (.int (u1.toInt8.toInt32)), .val (.int (u2.toInt8.toInt32)), .val (.int (u3.toInt8.toInt32)), .val (.ref b55), .val (.ref bq58)] [(.int (4 : Int32)), (.ref bq58)]))
    obtain ⟨cl64, Ar64, -, Sz64, Nn64, Hs64, -⟩ := id Vq58
    have hin64 : ¬ ((4 : Int32) < 0 ∨ cl64.slots.size ≤ ((4 : Int32)).toNatClampNeg) := inb_of Sz64 ⟨(by decide : ¬ ((4 : Int32) < (0 : Int32))), (by decide : (4 : Int32) < (5 : Int32))⟩
    have hat64 : cl64.slots[((4 : Int32)).toNatClampNeg]? = some (.int (13 : Int32)) := Hs64.at hin64 rfl
    refine own_st (X58.baloadBytes hx (j := (4 : Int32)) (v := (.int (13 : Int32))) Ar64.1 (State.isArrayOf_alike hZ.alike Ar64.2.1) Ar64.2.2 hin64 hat64 (g := (mkF m 197 #[.val (.int u0), .val (.int u1), .val (.int u2), .val (.int u3), .val (.int (2 : Int32)), .val (.int (u1.toInt8.toInt32)), .val (.int (u2.toInt8.toInt32)), .val (.int (u3.toInt8.toInt32)), .val (.ref b55), .val (.ref bq58)] [(.int (4 : Int32)), (.ref bq58)])) rfl rfl (hb hby at_197)) ?_
    show own_Go _ _ _ _ (T58.setTop (mkF m 198 #[.val (.int u0), .val (.int u1), .val (.int u2), .val (.int u3), .val (.int (2 : Int32)), .val (.int (u1.toInt8.toInt32)), .val (.int (u2.toInt8.toInt32)), .val (.int (u3.toInt8.toInt32)), .val (.ref b55), .val (.ref bq58)] [(.int (13 : Int32))]))
    refine own_st (fun _ k => XS.bipush X58.here hx rfl (hb hby at_198) k) ?_
    show own_Go _ _ _ _ (T58.setTop (mkF m 200 #[.val (.int u0), .val (.int u1), .val (.int u2), .val (.int u3), .val (.int (2 : Int32)), .val (.int (u1.toInt8.toInt32)), .val (.int (u2.toInt8.toInt32)), .val (.int (u3.toInt8.toInt32)), .val (.ref b55), .val (.ref bq58)] [(.int (13 : Int32)), (.int (13 : Int32))]))
    refine own_st (fun _ k => XS.icmpYes X58.here hx rfl (pc0 := 200) (pc' := 205) rfl (hb hby at_200) rfl (teq (by decide : ((13 : Int32) = (13 : Int32)))).1 (by decide) (by decide) k) ?_
    show own_Go _ _ _ _ (T58.setTop (mkF m 205 #[.val (.int u0), .val (.int u1), .val (.int u2), .val (.int u3), .val (.int (2 : Int32)), .val (.int (u1.toInt8.toInt32)), .val (.int (u2.toInt8.toInt32)), .val (.int (u3.toInt8.toInt32)), .val (.ref b55), .val (.ref bq58)] []))
    refine own_st (fun _ k => XS.aload X58.here hx rfl (hb hby at_205) rfl rfl k) ?_
    show own_Go _ _ _ _ (T58.setTop (mkF m 207 #[.val (.int u0), .val (.int u1), .val (.int u2), .val (.int u3), .val (.int (2 : Int32)), .val (.int (u1.toInt8.toInt32)), .val (.int (u2.toInt8.toInt32)), .val (.int (u3.toInt8.toInt32)), .val (.ref b55), .val (.ref bq58)] [(.ref b55)]))
    obtain ⟨cl65, Ar65, -, Sz65, Nn65, -, -⟩ := id z58_V_b55
    refine own_st (X58.arraylength hx Ar65.1 (State.isArrayOf_alike hZ.alike Ar65.2.1) (g := (mkF m 207 #[.val (.int u0), .val (.int u1), .val (.int u2), .val (.int u3), .val (.int (2 : Int32)), .val (.int (u1.toInt8.toInt32)), .val (.int (u2.toInt8.toInt32)), .val (.int (u3.toInt8.toInt32)), .val (.ref b55), .val (.ref bq58)] [(.ref b55)])) rfl rfl (hb hby at_207)) ?_
    rw [len_of Sz65 Nn65]
    show own_Go _ _ _ _ (T58.setTop (mkF m 208 #[.val (.int u0), .val (.int u1), .val (.int u2), .val (.int u3), .val (.int (2 : Int32)), .val (.int (u1.toInt8.toInt32)), .val (.int (u2.toInt8.toInt32)), .val (.int (u3.toInt8.toInt32)), .val (.ref b55), .val (.ref bq58)] [(.int (2 : Int32))]))
    refine own_st (fun _ k => XS.iload X58.here hx rfl (hb hby at_208) rfl k) ?_
    show own_Go _ _ _ _ (T58.setTop (mkF m 210 #[.val (.int u0), .val (.int u1), .val (.int u2), .val (.int u3), .val (.int (2 : Int32)), .val (.int (u1.toInt8.toInt32)), .val (.int (u2.toInt8.toInt32)), .val (.int (u3.toInt8.toInt32)), .val (.ref b55), .val (.ref bq58)] [(.int (2 : Int32)), (.int (2 : Int32))]))
    refine own_st (fun _ k => XS.icmpYes X58.here hx rfl (pc0 := 210) (pc' := 215) rfl (hb hby at_210) rfl (teq (by decide : ((2 : Int32) = (2 : Int32)))).1 (by decide) (by decide) k) ?_
    show own_Go _ _ _ _ (T58.setTop (mkF m 215 #[.val (.int u0), .val (.int u1), .val (.int u2), .val (.int u3), .val (.int (2 : Int32)), .val (.int (u1.toInt8.toInt32)), .val (.int (u2.toInt8.toInt32)), .val (.int (u3.toInt8.toInt32)), .val (.ref b55), .val (.ref bq58)] []))
    refine own_st (fun _ k => XS.iload X58.here hx rfl (hb hby at_215) rfl k) ?_
    show own_Go _ _ _ _ (T58.setTop (mkF m 217 #[.val (.int u0), .val (.int u1), .val (.int u2), .val (.int u3), .val (.int (2 : Int32)), .val (.int (u1.toInt8.toInt32)), .val (.int (u2.toInt8.toInt32)), .val (.int (u3.toInt8.toInt32)), .val (.ref b55), .val (.ref bq58)] [(.int (2 : Int32))]))
    refine own_st (fun _ k => XS.iconst X58.here hx rfl (hb hby at_217) k) ?_
    show own_Go _ _ _ _ (T58.setTop (mkF m 218 #[.val (.int u0), .val (.int u1), .val (.int u2), .val (.int u3), .val (.int (2 : Int32)), .val (.int (u1.toInt8.toInt32)), .val (.int (u2.toInt8.toInt32)), .val (.int (u3.toInt8.toInt32)), .val (.ref b55), .val (.ref bq58)] [(.int (1 : Int32)), (.int (2 : Int32))]))
    refine own_st (fun _ k => XS.icmpNo X58.here hx rfl (hb hby at_218) rfl (flt (by decide : ¬ ((2 : Int32) < (1 : Int32)))).1 k) ?_
    show own_Go _ _ _ _ (T58.setTop (mkF m 221 #[.val (.int u0), .val (.int u1), .val (.int u2), .val (.int u3), .val (.int (2 : Int32)), .val (.int (u1.toInt8.toInt32)), .val (.int (u2.toInt8.toInt32)), .val (.int (u3.toInt8.toInt32)), .val (.ref b55), .val (.ref bq58)] []))
    refine own_st (fun _ k => XS.aload X58.here hx rfl (hb hby at_221) rfl rfl k) ?_
    show own_Go _ _ _ _ (T58.setTop (mkF m 223 #[.val (.int u0), .val (.int u1), .val (.int u2), .val (.int u3), .val (.int (2 : Int32)), .val (.int (u1.toInt8.toInt32)), .val (.int (u2.toInt8.toInt32)), .val (.int (u3.toInt8.toInt32)), .val (.ref b55), .val (.ref bq58)] [(.ref b55)]))
    refine own_st (fun _ k => XS.iconst X58.here hx rfl (hb hby at_223) k) ?_
    show own_Go _ _ _ _ (T58.setTop (mkF m 224 #[.val (.int u0), .val (.int u1), .val (.int u2), .val (.int u3), .val (.int (2 : Int32)), .val (.int (u1.toInt8.toInt32)), .val (.int (u2.toInt8.toInt32)), .val (.int (u3.toInt8.toInt32)), .val (.ref b55), .val (.ref bq58)] [(.int (0 : Int32)), (.ref b55)]))
    obtain ⟨cl66, Ar66, -, Sz66, Nn66, Hs66, -⟩ := id z58_V_b55
    have hin66 : ¬ ((0 : Int32) < 0 ∨ cl66.slots.size ≤ ((0 : Int32)).toNatClampNeg) := inb_of Sz66 ⟨(by decide : ¬ ((0 : Int32) < (0 : Int32))), (by decide : (0 : Int32) < (2 : Int32))⟩
    have hat66 : cl66.slots[((0 : Int32)).toNatClampNeg]? = some (.int (u1.toInt8.toInt32)) := Hs66.at hin66 rfl
    refine own_st (X58.baloadBytes hx (j := (0 : Int32)) (v := (.int (u1.toInt8.toInt32))) Ar66.1 (State.isArrayOf_alike hZ.alike Ar66.2.1) Ar66.2.2 hin66 hat66 (g := (mkF m 224 #[.val (.int u0), .val (.int u1), .val (.int u2), .val (.int u3), .val (.int (2 : Int32)), .val (.int (u1.toInt8.toInt32)), .val (.int (u2.toInt8.toInt32)), .val (.int (u3.toInt8.toInt32)), .val (.ref b55), .val (.ref bq58)] [(.int (0 : Int32)), (.ref b55)])) rfl rfl (hb hby at_224)) ?_
    show own_Go _ _ _ _ (T58.setTop (mkF m 225 #[.val (.int u0), .val (.int u1), .val (.int u2), .val (.int u3), .val (.int (2 : Int32)), .val (.int (u1.toInt8.toInt32)), .val (.int (u2.toInt8.toInt32)), .val (.int (u3.toInt8.toInt32)), .val (.ref b55), .val (.ref bq58)] [(.int (u1.toInt8.toInt32))]))
    refine own_st (fun _ k => XS.iload X58.here hx rfl (hb hby at_225) rfl k) ?_
    show own_Go _ _ _ _ (T58.setTop (mkF m 227 #[.val (.int u0), .val (.int u1), .val (.int u2), .val (.int u3), .val (.int (2 : Int32)), .val (.int (u1.toInt8.toInt32)), .val (.int (u2.toInt8.toInt32)), .val (.int (u3.toInt8.toInt32)), .val (.ref b55), .val (.ref bq58)] [(.int (u1.toInt8.toInt32)), (.int (u1.toInt8.toInt32))]))
    refine own_st (fun _ k => XS.icmpYes X58.here hx rfl (pc0 := 227) (pc' := 232) rfl (hb hby at_227) rfl (teq (rfl : (u1.toInt8.toInt32) = (u1.toInt8.toInt32))).1 (by decide) (by decide) k) ?_
    show own_Go _ _ _ _ (T58.setTop (mkF m 232 #[.val (.int u0), .val (.int u1), .val (.int u2), .val (.int u3), .val (.int (2 : Int32)), .val (.int (u1.toInt8.toInt32)), .val (.int (u2.toInt8.toInt32)), .val (.int (u3.toInt8.toInt32)), .val (.ref b55), .val (.ref bq58)] []))
    refine own_st (fun _ k => XS.iload X58.here hx rfl (hb hby at_232) rfl k) ?_
    show own_Go _ _ _ _ (T58.setTop (mkF m 234 #[.val (.int u0), .val (.int u1), .val (.int u2), .val (.int u3), .val (.int (2 : Int32)), .val (.int (u1.toInt8.toInt32)), .val (.int (u2.toInt8.toInt32)), .val (.int (u3.toInt8.toInt32)), .val (.ref b55), .val (.ref bq58)] [(.int (2 : Int32))]))
    refine own_st (fun _ k => XS.iconst X58.here hx rfl (hb hby at_234) k) ?_
    show own_Go _ _ _ _ (T58.setTop (mkF m 235 #[.val (.int u0), .val (.int u1), .val (.int u2), .val (.int u3), .val (.int (2 : Int32)), .val (.int (u1.toInt8.toInt32)), .val (.int (u2.toInt8.toInt32)), .val (.int (u3.toInt8.toInt32)), .val (.ref b55), .val (.ref bq58)] [(.int (2 : Int32)), (.int (2 : Int32))]))
    refine own_st (fun _ k => XS.icmpNo X58.here hx rfl (hb hby at_235) rfl (flt (by decide : ¬ ((2 : Int32) < (2 : Int32)))).1 k) ?_
    show own_Go _ _ _ _ (T58.setTop (mkF m 238 #[.val (.int u0), .val (.int u1), .val (.int u2), .val (.int u3), .val (.int (2 : Int32)), .val (.int (u1.toInt8.toInt32)), .val (.int (u2.toInt8.toInt32)), .val (.int (u3.toInt8.toInt32)), .val (.ref b55), .val (.ref bq58)] []))
    refine own_st (fun _ k => XS.aload X58.here hx rfl (hb hby at_238) rfl rfl k) ?_
    show own_Go _ _ _ _ (T58.setTop (mkF m 240 #[.val (.int u0), .val (.int u1), .val (.int u2), .val (.int u3), .val (.int (2 : Int32)), .val (.int (u1.toInt8.toInt32)), .val (.int (u2.toInt8.toInt32)), .val (.int (u3.toInt8.toInt32)), .val (.ref b55), .val (.ref bq58)] [(.ref b55)]))
    refine own_st (fun _ k => XS.iconst X58.here hx rfl (hb hby at_240) k) ?_
    show own_Go _ _ _ _ (T58.setTop (mkF m 241 #[.val (.int u0), .val (.int u1), .val (.int u2), .val (.int u3), .val (.int (2 : Int32)), .val (.int (u1.toInt8.toInt32)), .val (.int (u2.toInt8.toInt32)), .val (.int (u3.toInt8.toInt32)), .val (.ref b55), .val (.ref bq58)] [(.int (1 : Int32)), (.ref b55)]))
    obtain ⟨cl67, Ar67, -, Sz67, Nn67, Hs67, -⟩ := id z58_V_b55
    have hin67 : ¬ ((1 : Int32) < 0 ∨ cl67.slots.size ≤ ((1 : Int32)).toNatClampNeg) := inb_of Sz67 ⟨(by decide : ¬ ((1 : Int32) < (0 : Int32))), (by decide : (1 : Int32) < (2 : Int32))⟩
    have hat67 : cl67.slots[((1 : Int32)).toNatClampNeg]? = some (.int (u2.toInt8.toInt32)) := Hs67.at hin67 rfl
    refine own_st (X58.baloadBytes hx (j := (1 : Int32)) (v := (.int (u2.toInt8.toInt32))) Ar67.1 (State.isArrayOf_alike hZ.alike Ar67.2.1) Ar67.2.2 hin67 hat67 (g := (mkF m 241 #[.val (.int u0), .val (.int u1), .val (.int u2), .val (.int u3), .val (.int (2 : Int32)), .val (.int (u1.toInt8.toInt32)), .val (.int (u2.toInt8.toInt32)), .val (.int (u3.toInt8.toInt32)), .val (.ref b55), .val (.ref bq58)] [(.int (1 : Int32)), (.ref b55)])) rfl rfl (hb hby at_241)) ?_
    show own_Go _ _ _ _ (T58.setTop (mkF m 242 #[.val (.int u0), .val (.int u1), .val (.int u2), .val (.int u3), .val (.int (2 : Int32)), .val (.int (u1.toInt8.toInt32)), .val (.int (u2.toInt8.toInt32)), .val (.int (u3.toInt8.toInt32)), .val (.ref b55), .val (.ref bq58)] [(.int (u2.toInt8.toInt32))]))
    refine own_st (fun _ k => XS.iload X58.here hx rfl (hb hby at_242) rfl k) ?_
    show own_Go _ _ _ _ (T58.setTop (mkF m 244 #[.val (.int u0), .val (.int u1), .val (.int u2), .val (.int u3), .val (.int (2 : Int32)), .val (.int (u1.toInt8.toInt32)), .val (.int (u2.toInt8.toInt32)), .val (.int (u3.toInt8.toInt32)), .val (.ref b55), .val (.ref bq58)] [(.int (u2.toInt8.toInt32)), (.int (u2.toInt8.toInt32))]))
    refine own_st (fun _ k => XS.icmpYes X58.here hx rfl (pc0 := 244) (pc' := 249) rfl (hb hby at_244) rfl (teq (rfl : (u2.toInt8.toInt32) = (u2.toInt8.toInt32))).1 (by decide) (by decide) k) ?_
    show own_Go _ _ _ _ (T58.setTop (mkF m 249 #[.val (.int u0), .val (.int u1), .val (.int u2), .val (.int u3), .val (.int (2 : Int32)), .val (.int (u1.toInt8.toInt32)), .val (.int (u2.toInt8.toInt32)), .val (.int (u3.toInt8.toInt32)), .val (.ref b55), .val (.ref bq58)] []))
    refine own_st (fun _ k => XS.iload X58.here hx rfl (hb hby at_249) rfl k) ?_
    show own_Go _ _ _ _ (T58.setTop (mkF m 251 #[.val (.int u0), .val (.int u1), .val (.int u2), .val (.int u3), .val (.int (2 : Int32)), .val (.int (u1.toInt8.toInt32)), .val (.int (u2.toInt8.toInt32)), .val (.int (u3.toInt8.toInt32)), .val (.ref b55), .val (.ref bq58)] [(.int (2 : Int32))]))
    refine own_st (fun _ k => XS.iconst X58.here hx rfl (hb hby at_251) k) ?_
    show own_Go _ _ _ _ (T58.setTop (mkF m 252 #[.val (.int u0), .val (.int u1), .val (.int u2), .val (.int u3), .val (.int (2 : Int32)), .val (.int (u1.toInt8.toInt32)), .val (.int (u2.toInt8.toInt32)), .val (.int (u3.toInt8.toInt32)), .val (.ref b55), .val (.ref bq58)] [(.int (3 : Int32)), (.int (2 : Int32))]))
    refine own_st (fun _ k => XS.icmpYes X58.here hx rfl (pc0 := 252) (pc' := 266) rfl (hb hby at_252) rfl (tlt (by decide : ((2 : Int32) < (3 : Int32)))).1 (by decide) (by decide) k) ?_
    show own_Go _ _ _ _ (T58.setTop (mkF m 266 #[.val (.int u0), .val (.int u1), .val (.int u2), .val (.int u3), .val (.int (2 : Int32)), .val (.int (u1.toInt8.toInt32)), .val (.int (u2.toInt8.toInt32)), .val (.int (u3.toInt8.toInt32)), .val (.ref b55), .val (.ref bq58)] []))
    refine own_st (fun _ k => XS.iconst X58.here hx rfl (hb hby at_266) k) ?_
    show own_Go _ _ _ _ (T58.setTop (mkF m 267 #[.val (.int u0), .val (.int u1), .val (.int u2), .val (.int u3), .val (.int (2 : Int32)), .val (.int (u1.toInt8.toInt32)), .val (.int (u2.toInt8.toInt32)), .val (.int (u3.toInt8.toInt32)), .val (.ref b55), .val (.ref bq58)] [(.int (1 : Int32))]))
    obtain ⟨fs, hr, hrun, hended, hW, hsame⟩ := X58.leave (v := some (.int (1 : Int32))) (fun h => by rw [Bd.returns] at h; cases h)
    refine own_out (retN X58 hx (t := .boolean) Bd.returns (by simp) (hb hby at_267) hr) ⟨hrun, hended, _, _, rfl, ?_, ⟨_, rfl⟩, hW, hsame.mono (by decide) (by decide)⟩
    show Q0 Z u0 u1 u2 u3 h0 n0 _ T58.heap _
    exact ⟨rfl, N58⟩
  · skip
    rw [hs37]
    show own_Go _ _ _ _ (s₁.setTop (mkF m 5 #[.val (.int u0), .val (.int u1), .val (.int u2), .val (.int u3), .val (.int (3 : Int32)), .unset, .unset, .unset, .unset, .unset] []))
    refine own_st (fun _ k => XS.iloadN X0.here hx rfl (hb hby at_5) rfl k) ?_
    show own_Go _ _ _ _ (s₁.setTop (mkF m 6 #[.val (.int u0), .val (.int u1), .val (.int u2), .val (.int u3), .val (.int (3 : Int32)), .unset, .unset, .unset, .unset, .unset] [(.int u1)]))
    refine own_st (fun _ k => XS.i2b X0.here hx rfl (hb hby at_6) rfl k) ?_
    show own_Go _ _ _ _ (s₁.setTop (mkF m 7 #[.val (.int u0), .val (.int u1), .val (.int u2), .val (.int u3), .val (.int (3 : Int32)), .unset, .unset, .unset, .unset, .unset] [(.int (u1.toInt8.toInt32))]))
    refine own_st (fun _ k => XS.istore X0.here hx rfl (hb hby at_7) rfl (l' := #[.val (.int u0), .val (.int u1), .val (.int u2), .val (.int u3), .val (.int (3 : Int32)), .val (.int (u1.toInt8.toInt32)), .unset, .unset, .unset, .unset]) rfl k) ?_
    show own_Go _ _ _ _ (s₁.setTop (mkF m 9 #[.val (.int u0), .val (.int u1), .val (.int u2), .val (.int u3), .val (.int (3 : Int32)), .val (.int (u1.toInt8.toInt32)), .unset, .unset, .unset, .unset] []))
    refine own_st (fun _ k => XS.iloadN X0.here hx rfl (hb hby at_9) rfl k) ?_
    show own_Go _ _ _ _ (s₁.setTop (mkF m 10 #[.val (.int u0), .val (.int u1), .val (.int u2), .val (.int u3), .val (.int (3 : Int32)), .val (.int (u1.toInt8.toInt32)), .unset, .unset, .unset, .unset] [(.int u2)]))
    refine own_st (fun _ k => XS.i2b X0.here hx rfl (hb hby at_10) rfl k) ?_
    show own_Go _ _ _ _ (s₁.setTop (mkF m 11 #[.val (.int u0), .val (.int u1), .val (.int u2), .val (.int u3), .val (.int (3 : Int32)), .val (.int (u1.toInt8.toInt32)), .unset, .unset, .unset, .unset] [(.int (u2.toInt8.toInt32))]))
    refine own_st (fun _ k => XS.istore X0.here hx rfl (hb hby at_11) rfl (l' := #[.val (.int u0), .val (.int u1), .val (.int u2), .val (.int u3), .val (.int (3 : Int32)), .val (.int (u1.toInt8.toInt32)), .val (.int (u2.toInt8.toInt32)), .unset, .unset, .unset]) rfl k) ?_
    show own_Go _ _ _ _ (s₁.setTop (mkF m 13 #[.val (.int u0), .val (.int u1), .val (.int u2), .val (.int u3), .val (.int (3 : Int32)), .val (.int (u1.toInt8.toInt32)), .val (.int (u2.toInt8.toInt32)), .unset, .unset, .unset] []))
    refine own_st (fun _ k => XS.iloadN X0.here hx rfl (hb hby at_13) rfl k) ?_
    show own_Go _ _ _ _ (s₁.setTop (mkF m 14 #[.val (.int u0), .val (.int u1), .val (.int u2), .val (.int u3), .val (.int (3 : Int32)), .val (.int (u1.toInt8.toInt32)), .val (.int (u2.toInt8.toInt32)), .unset, .unset, .unset] [(.int u3)]))
    refine own_st (fun _ k => XS.i2b X0.here hx rfl (hb hby at_14) rfl k) ?_
    show own_Go _ _ _ _ (s₁.setTop (mkF m 15 #[.val (.int u0), .val (.int u1), .val (.int u2), .val (.int u3), .val (.int (3 : Int32)), .val (.int (u1.toInt8.toInt32)), .val (.int (u2.toInt8.toInt32)), .unset, .unset, .unset] [(.int (u3.toInt8.toInt32))]))
    refine own_st (fun _ k => XS.istore X0.here hx rfl (hb hby at_15) rfl (l' := #[.val (.int u0), .val (.int u1), .val (.int u2), .val (.int u3), .val (.int (3 : Int32)), .val (.int (u1.toInt8.toInt32)), .val (.int (u2.toInt8.toInt32)), .val (.int (u3.toInt8.toInt32)), .unset, .unset]) rfl k) ?_
    show own_Go _ _ _ _ (s₁.setTop (mkF m 17 #[.val (.int u0), .val (.int u1), .val (.int u2), .val (.int u3), .val (.int (3 : Int32)), .val (.int (u1.toInt8.toInt32)), .val (.int (u2.toInt8.toInt32)), .val (.int (u3.toInt8.toInt32)), .unset, .unset] []))
    refine own_st (fun _ k => XS.iload X0.here hx rfl (hb hby at_17) rfl k) ?_
    show own_Go _ _ _ _ (s₁.setTop (mkF m 19 #[.val (.int u0), .val (.int u1), .val (.int u2), .val (.int u3), .val (.int (3 : Int32)), .val (.int (u1.toInt8.toInt32)), .val (.int (u2.toInt8.toInt32)), .val (.int (u3.toInt8.toInt32)), .unset, .unset] [(.int (3 : Int32))]))
    refine own_st (fun _ k => XS.ifYes X0.here hx rfl (pc0 := 19) (pc' := 30) rfl (hb hby at_19) rfl ((if0 _ _).trans (feq (by decide : ¬ ((3 : Int32) = (0 : Int32)))).2) (by decide) (by decide) k) ?_
    show own_Go _ _ _ _ (s₁.setTop (mkF m 30 #[.val (.int u0), .val (.int u1), .val (.int u2), .val (.int u3), .val (.int (3 : Int32)), .val (.int (u1.toInt8.toInt32)), .val (.int (u2.toInt8.toInt32)), .val (.int (u3.toInt8.toInt32)), .unset, .unset] []))
    refine own_st (fun _ k => XS.iload X0.here hx rfl (hb hby at_30) rfl k) ?_
    show own_Go _ _ _ _ (s₁.setTop (mkF m 32 #[.val (.int u0), .val (.int u1), .val (.int u2), .val (.int u3), .val (.int (3 : Int32)), .val (.int (u1.toInt8.toInt32)), .val (.int (u2.toInt8.toInt32)), .val (.int (u3.toInt8.toInt32)), .unset, .unset] [(.int (3 : Int32))]))
    refine own_st (fun _ k => XS.iconst X0.here hx rfl (hb hby at_32) k) ?_
    show own_Go _ _ _ _ (s₁.setTop (mkF m 33 #[.val (.int u0), .val (.int u1), .val (.int u2), .val (.int u3), .val (.int (3 : Int32)), .val (.int (u1.toInt8.toInt32)), .val (.int (u2.toInt8.toInt32)), .val (.int (u3.toInt8.toInt32)), .unset, .unset] [(.int (1 : Int32)), (.int (3 : Int32))]))
    refine own_st (fun _ k => XS.icmpYes X0.here hx rfl (pc0 := 33) (pc' := 49) rfl (hb hby at_33) rfl (feq (by decide : ¬ ((3 : Int32) = (1 : Int32)))).2 (by decide) (by decide) k) ?_
    show own_Go _ _ _ _ (s₁.setTop (mkF m 49 #[.val (.int u0), .val (.int u1), .val (.int u2), .val (.int u3), .val (.int (3 : Int32)), .val (.int (u1.toInt8.toInt32)), .val (.int (u2.toInt8.toInt32)), .val (.int (u3.toInt8.toInt32)), .unset, .unset] []))
    refine own_st (fun _ k => XS.iload X0.here hx rfl (hb hby at_49) rfl k) ?_
    show own_Go _ _ _ _ (s₁.setTop (mkF m 51 #[.val (.int u0), .val (.int u1), .val (.int u2), .val (.int u3), .val (.int (3 : Int32)), .val (.int (u1.toInt8.toInt32)), .val (.int (u2.toInt8.toInt32)), .val (.int (u3.toInt8.toInt32)), .unset, .unset] [(.int (3 : Int32))]))
    refine own_st (fun _ k => XS.iconst X0.here hx rfl (hb hby at_51) k) ?_
    show own_Go _ _ _ _ (s₁.setTop (mkF m 52 #[.val (.int u0), .val (.int u1), .val (.int u2), .val (.int u3), .val (.int (3 : Int32)), .val (.int (u1.toInt8.toInt32)), .val (.int (u2.toInt8.toInt32)), .val (.int (u3.toInt8.toInt32)), .unset, .unset] [(.int (2 : Int32)), (.int (3 : Int32))]))
    refine own_st (fun _ k => XS.icmpYes X0.here hx rfl (pc0 := 52) (pc' := 73) rfl (hb hby at_52) rfl (feq (by decide : ¬ ((3 : Int32) = (2 : Int32)))).2 (by decide) (by decide) k) ?_
    show own_Go _ _ _ _ (s₁.setTop (mkF m 73 #[.val (.int u0), .val (.int u1), .val (.int u2), .val (.int u3), .val (.int (3 : Int32)), .val (.int (u1.toInt8.toInt32)), .val (.int (u2.toInt8.toInt32)), .val (.int (u3.toInt8.toInt32)), .unset, .unset] []))
    refine own_st (fun _ k => XS.iconst X0.here hx rfl (hb hby at_73) k) ?_
    show own_Go _ _ _ _ (s₁.setTop (mkF m 74 #[.val (.int u0), .val (.int u1), .val (.int u2), .val (.int u3), .val (.int (3 : Int32)), .val (.int (u1.toInt8.toInt32)), .val (.int (u2.toInt8.toInt32)), .val (.int (u3.toInt8.toInt32)), .unset, .unset] [(.int (3 : Int32))]))
    obtain ⟨T68, h68, k68, X68, e68, E68, A68, st68⟩ := newP X0 hx hZ (hw _ (List.mem_of_getElem? (i := 0) rfl)) e0 (g := (mkF m 74 #[.val (.int u0), .val (.int u1), .val (.int u2), .val (.int u3), .val (.int (3 : Int32)), .val (.int (u1.toInt8.toInt32)), .val (.int (u2.toInt8.toInt32)), .val (.int (u3.toInt8.toInt32)), .unset, .unset] [(.int (3 : Int32))])) rfl (hb hby at_74) rfl (by decide : ¬ ((3 : Int32) < (0 : Int32))) (cap := 3) (by decide : ((3 : Int32)).toNatClampNeg ≤ 3) (by decide) (by decide) (by decide)
    obtain ⟨b68, g68⟩ : ∃ z, z = h0.size := ⟨_, rfl⟩
    rw [← g68] at A68 st68
    refine own_st st68 ?_
    have Z68 : n0 ≤ h68.size := Nat.le_trans Z0 E68.1
    have gnb68 : n0 ≤ b68 := Nat.le_trans Z0 (Nat.le_of_eq g68.symm)
    have gkb68 : h0.size ≤ b68 := Nat.le_trans K0.1 (Nat.le_of_eq g68.symm)
    have K68 : Keep h0 h68 [] := K0.ext E68
    have V68 : Arv Z h68 b68 k68 .byte (3 : Int32) [(.int (0 : Int32)), (.int (0 : Int32)), (.int (0 : Int32))] (.int (0 : Int32)) := (Arv.new A68 (by decide : ¬ ((3 : Int32) < (0 : Int32)))).pad (pad_rep [] (.int (0 : Int32)) 3)
    show own_Go _ _ _ _ (T68.setTop (mkF m 76 #[.val (.int u0), .val (.int u1), .val (.int u2), .val (.int u3), .val (.int (3 : Int32)), .val (.int (u1.toInt8.toInt32)), .val (.int (u2.toInt8.toInt32)), .val (.int (u3.toInt8.toInt32)), .unset, .unset] [(.ref b68)]))
    refine own_st (fun _ k => XS.dup X68.here hx rfl (hb hby at_76) rfl rfl k) ?_
    show own_Go _ _ _ _ (T68.setTop (mkF m 77 #[.val (.int u0), .val (.int u1), .val (.int u2), .val (.int u3), .val (.int (3 : Int32)), .val (.int (u1.toInt8.toInt32)), .val (.int (u2.toInt8.toInt32)), .val (.int (u3.toInt8.toInt32)), .unset, .unset] [(.ref b68), (.ref b68)]))
    refine own_st (fun _ k => XS.iconst X68.here hx rfl (hb hby at_77) k) ?_
    show own_Go _ _ _ _ (T68.setTop (mkF m 78 #[.val (.int u0), .val (.int u1), .val (.int u2), .val (.int u3), .val (.int (3 : Int32)), .val (.int (u1.toInt8.toInt32)), .val (.int (u2.toInt8.toInt32)), .val (.int (u3.toInt8.toInt32)), .unset, .unset] [(.int (0 : Int32)), (.ref b68), (.ref b68)]))
    refine own_st (fun _ k => XS.iload X68.here hx rfl (hb hby at_78) rfl k) ?_
    show own_Go _ _ _ _ (T68.setTop (mkF m 80 #[.val (.int u0), .val (.int u1), .val (.int u2), .val (.int u3), .val (.int (3 : Int32)), .val (.int (u1.toInt8.toInt32)), .val (.int (u2.toInt8.toInt32)), .val (.int (u3.toInt8.toInt32)), .unset, .unset] [(.int (u1.toInt8.toInt32)), (.int (0 : Int32)), (.ref b68), (.ref b68)]))
    obtain ⟨cl69, Ar69, Kd69, Sz69, Nn69, Hs69, Gs69⟩ := id V68
    obtain ⟨T69, h69, X69, e69, W69, st69⟩ := stB X68 hx hZ e68 Ar69 (j := (0 : Int32)) (inb_of Sz69 ⟨(by decide : ¬ ((0 : Int32) < (0 : Int32))), (by decide : (0 : Int32) < (3 : Int32))⟩) (g := (mkF m 80 #[.val (.int u0), .val (.int u1), .val (.int u2), .val (.int u3), .val (.int (3 : Int32)), .val (.int (u1.toInt8.toInt32)), .val (.int (u2.toInt8.toInt32)), .val (.int (u3.toInt8.toInt32)), .unset, .unset] [(.int (u1.toInt8.toInt32)), (.int (0 : Int32)), (.ref b68), (.ref b68)])) rfl rfl (hb hby at_80)
    refine own_st st69 ?_
    have V69 := Arv.set Ar69 Kd69 Sz69 Nn69 Hs69 Gs69 (fits_nar_byte _) W69 0 rfl (Nat.le_of_ble_eq_true rfl)
    have V69' : Arv Z h69 b68 k68 .byte (3 : Int32) [(.int (u1.toInt8.toInt32)), (.int (0 : Int32)), (.int (0 : Int32))] (.int (0 : Int32)) := by have q := V69; rw [own_narB] at q; exact q
    have Z69 : n0 ≤ h69.size := Nat.le_trans Z68 (Nat.le_of_eq W69.size.symm)
    have N69 := Fr.snoc X69 N0 gnb68
    have K69 : Keep h0 h69 [] := K68.wr W69 (Or.inr gkb68)
    show own_Go _ _ _ _ (T69.setTop (mkF m 81 #[.val (.int u0), .val (.int u1), .val (.int u2), .val (.int u3), .val (.int (3 : Int32)), .val (.int (u1.toInt8.toInt32)), .val (.int (u2.toInt8.toInt32)), .val (.int (u3.toInt8.toInt32)), .unset, .unset] [(.ref b68)]))
    refine own_st (fun _ k => XS.dup X69.here hx rfl (hb hby at_81) rfl rfl k) ?_
    show own_Go _ _ _ _ (T69.setTop (mkF m 82 #[.val (.int u0), .val (.int u1), .val (.int u2), .val (.int u3), .val (.int (3 : Int32)), .val (.int (u1.toInt8.toInt32)), .val (.int (u2.toInt8.toInt32)), .val (.int (u3.toInt8.toInt32)), .unset, .unset] [(.ref b68), (.ref b68)]))
    refine own_st (fun _ k => XS.iconst X69.here hx rfl (hb hby at_82) k) ?_
    show own_Go _ _ _ _ (T69.setTop (mkF m 83 #[.val (.int u0), .val (.int u1), .val (.int u2), .val (.int u3), .val (.int (3 : Int32)), .val (.int (u1.toInt8.toInt32)), .val (.int (u2.toInt8.toInt32)), .val (.int (u3.toInt8.toInt32)), .unset, .unset] [(.int (1 : Int32)), (.ref b68), (.ref b68)]))
    refine own_st (fun _ k => XS.iload X69.here hx rfl (hb hby at_83) rfl k) ?_
    show own_Go _ _ _ _ (T69.setTop (mkF m 85 #[.val (.int u0), .val (.int u1), .val (.int u2), .val (.int u3), .val (.int (3 : Int32)), .val (.int (u1.toInt8.toInt32)), .val (.int (u2.toInt8.toInt32)), .val (.int (u3.toInt8.toInt32)), .unset, .unset] [(.int (u2.toInt8.toInt32)), (.int (1 : Int32)), (.ref b68), (.ref b68)]))
    obtain ⟨cl70, Ar70, Kd70, Sz70, Nn70, Hs70, Gs70⟩ := id V69'
    obtain ⟨T70, h70, X70, e70, W70, st70⟩ := stB X69 hx hZ e69 Ar70 (j := (1 : Int32)) (inb_of Sz70 ⟨(by decide : ¬ ((1 : Int32) < (0 : Int32))), (by decide : (1 : Int32) < (3 : Int32))⟩) (g := (mkF m 85 #[.val (.int u0), .val (.int u1), .val (.int u2), .val (.int u3), .val (.int (3 : Int32)), .val (.int (u1.toInt8.toInt32)), .val (.int (u2.toInt8.toInt32)), .val (.int (u3.toInt8.toInt32)), .unset, .unset] [(.int (u2.toInt8.toInt32)), (.int (1 : Int32)), (.ref b68), (.ref b68)])) rfl rfl (hb hby at_85)
    refine own_st st70 ?_
    have V70 := Arv.set Ar70 Kd70 Sz70 Nn70 Hs70 Gs70 (fits_nar_byte _) W70 1 rfl (Nat.le_of_ble_eq_true rfl)
    have V70' : Arv Z h70 b68 k68 .byte (3 : Int32) [(.int (u1.toInt8.toInt32)), (.int (u2.toInt8.toInt32)), (.int (0 : Int32))] (.int (0 : Int32)) := by have q := V70; rw [own_narB] at q; exact q
    have Z70 : n0 ≤ h70.size := Nat.le_trans Z69 (Nat.le_of_eq W70.size.symm)
    have N70 := Fr.snoc X70 N69 gnb68
    have K70 : Keep h0 h70 [] := K69.wr W70 (Or.inr gkb68)
    show own_Go _ _ _ _ (T70.setTop (mkF m 86 #[.val (.int u0), .val (.int u1), .val (.int u2), .val (.int u3), .val (.int (3 : Int32)), .val (.int (u1.toInt8.toInt32)), .val (.int (u2.toInt8.toInt32)), .val (.int (u3.toInt8.toInt32)), .unset, .unset] [(.ref b68)]))
    refine own_st (fun _ k => XS.dup X70.here hx rfl (hb hby at_86) rfl rfl k) ?_
    show own_Go _ _ _ _ (T70.setTop (mkF m 87 #[.val (.int u0), .val (.int u1), .val (.int u2), .val (.int u3), .val (.int (3 : Int32)), .val (.int (u1.toInt8.toInt32)), .val (.int (u2.toInt8.toInt32)), .val (.int (u3.toInt8.toInt32)), .unset, .unset] [(.ref b68), (.ref b68)]))
    refine own_st (fun _ k => XS.iconst X70.here hx rfl (hb hby at_87) k) ?_
    show own_Go _ _ _ _ (T70.setTop (mkF m 88 #[.val (.int u0), .val (.int u1), .val (.int u2), .val (.int u3), .val (.int (3 : Int32)), .val (.int (u1.toInt8.toInt32)), .val (.int (u2.toInt8.toInt32)), .val (.int (u3.toInt8.toInt32)), .unset, .unset] [(.int (2 : Int32)), (.ref b68), (.ref b68)]))
    refine own_st (fun _ k => XS.iload X70.here hx rfl (hb hby at_88) rfl k) ?_
    show own_Go _ _ _ _ (T70.setTop (mkF m 90 #[.val (.int u0), .val (.int u1), .val (.int u2), .val (.int u3), .val (.int (3 : Int32)), .val (.int (u1.toInt8.toInt32)), .val (.int (u2.toInt8.toInt32)), .val (.int (u3.toInt8.toInt32)), .unset, .unset] [(.int (u3.toInt8.toInt32)), (.int (2 : Int32)), (.ref b68), (.ref b68)]))
    obtain ⟨cl71, Ar71, Kd71, Sz71, Nn71, Hs71, Gs71⟩ := id V70'
    obtain ⟨T71, h71, X71, e71, W71, st71⟩ := stB X70 hx hZ e70 Ar71 (j := (2 : Int32)) (inb_of Sz71 ⟨(by decide : ¬ ((2 : Int32) < (0 : Int32))), (by decide : (2 : Int32) < (3 : Int32))⟩) (g := (mkF m 90 #[.val (.int u0), .val (.int u1), .val (.int u2), .val (.int u3), .val (.int (3 : Int32)), .val (.int (u1.toInt8.toInt32)), .val (.int (u2.toInt8.toInt32)), .val (.int (u3.toInt8.toInt32)), .unset, .unset] [(.int (u3.toInt8.toInt32)), (.int (2 : Int32)), (.ref b68), (.ref b68)])) rfl rfl (hb hby at_90)
    refine own_st st71 ?_
    have V71 := Arv.set Ar71 Kd71 Sz71 Nn71 Hs71 Gs71 (fits_nar_byte _) W71 2 rfl (Nat.le_of_ble_eq_true rfl)
    have V71' : Arv Z h71 b68 k68 .byte (3 : Int32) [(.int (u1.toInt8.toInt32)), (.int (u2.toInt8.toInt32)), (.int (u3.toInt8.toInt32))] (.int (0 : Int32)) := by have q := V71; rw [own_narB] at q; exact q
    have Z71 : n0 ≤ h71.size := Nat.le_trans Z70 (Nat.le_of_eq W71.size.symm)
    have N71 := Fr.snoc X71 N70 gnb68
    have K71 : Keep h0 h71 [] := K70.wr W71 (Or.inr gkb68)
    show own_Go _ _ _ _ (T71.setTop (mkF m 91 #[.val (.int u0), .val (.int u1), .val (.int u2), .val (.int u3), .val (.int (3 : Int32)), .val (.int (u1.toInt8.toInt32)), .val (.int (u2.toInt8.toInt32)), .val (.int (u3.toInt8.toInt32)), .unset, .unset] [(.ref b68)]))
    refine own_st (fun _ k => XS.astore X71.here hx rfl (hb hby at_91) rfl rfl (l' := #[.val (.int u0), .val (.int u1), .val (.int u2), .val (.int u3), .val (.int (3 : Int32)), .val (.int (u1.toInt8.toInt32)), .val (.int (u2.toInt8.toInt32)), .val (.int (u3.toInt8.toInt32)), .val (.ref b68), .unset]) rfl k) ?_
    show own_Go _ _ _ _ (T71.setTop (mkF m 93 #[.val (.int u0), .val (.int u1), .val (.int u2), .val (.int u3), .val (.int (3 : Int32)), .val (.int (u1.toInt8.toInt32)), .val (.int (u2.toInt8.toInt32)), .val (.int (u3.toInt8.toInt32)), .val (.ref b68), .unset] []))
    refine own_st (fun _ k => XS.aload X71.here hx rfl (hb hby at_93) rfl rfl k) ?_
    show own_Go _ _ _ _ (T71.setTop (mkF m 95 #[.val (.int u0), .val (.int u1), .val (.int u2), .val (.int u3), .val (.int (3 : Int32)), .val (.int (u1.toInt8.toInt32)), .val (.int (u2.toInt8.toInt32)), .val (.int (u3.toInt8.toInt32)), .val (.ref b68), .unset] [(.ref b68)]))
    obtain ⟨_, _, ⟨T72, L72, k72, n72⟩, -, X72, ⟨Lc72, hQ72, l72, y72, z72⟩, st72⟩ := Jvm.LawKit.callS X71 hx (y := (⟨"quillvax/mllp/Mllp", "frame", "([B)[B"⟩ : MethodName)) hown (mvT hZ (hw _ (List.mem_of_getElem? (i := 1) rfl))) (mvT hZ (hw _ (List.mem_of_getElem? (i := 2) rfl))) (mvT hZ (hw _ (List.mem_of_getElem? (i := 3) rfl))) (mvT hZ (hw _ (List.mem_of_getElem? (i := 4) rfl))) (by decide) (backOf (W := 0) (rm1_3 l Z a0 hw [] b68 k68 (u1.toInt8.toInt32) (u2.toInt8.toInt32) (u3.toInt8.toInt32) h71 n0 Z71 V71') hZ (hw _ (List.mem_of_getElem? (i := 4) rfl)) (hw _ (List.mem_of_getElem? (i := 3) rfl)) (by decide) (by decide)) (g := (mkF m 95 #[.val (.int u0), .val (.int u1), .val (.int u2), .val (.int u3), .val (.int (3 : Int32)), .val (.int (u1.toInt8.toInt32)), .val (.int (u2.toInt8.toInt32)), .val (.int (u3.toInt8.toInt32)), .val (.ref b68), .unset] [(.ref b68)])) rfl (by rw [hml]; rfl) (argsL := [(.ref b68)]) (rest := []) (lenOf own_pd0 rfl) rfl (by show 2 * 0 + _ ≤ _; exact Nat.le_of_eq rfl) (hb hby at_95) (fun _ _ => ⟨rfl, e71, (by decide : 1 + 1 ≤ _), (by decide : 3 + 6 ≤ _)⟩)
    dsimp only [Pt.U, Pt.locs, Pt.cells, Pt.slots] at X72 l72 y72 z72 st72 hQ72
    subst l72 y72 z72
    obtain ⟨bq72, kq72, rfl, Nq72, Kq72, gq72, Vq72⟩ := hQ72
    have N72 := Fr.app N71 Nq72
    refine own_st st72 ?_
    have neb68_bq72 : b68 ≠ bq72 := Nat.ne_of_lt (Nat.lt_of_lt_of_le V71'.lt gq72)
    have gnbq72 : n0 ≤ bq72 := Nat.le_trans Z71 gq72
    have gkbq72 : h0.size ≤ bq72 := Nat.le_trans K71.1 gq72
    have z72_V_b68 := V71'.keep Kq72 nin0
    have Z72 : n0 ≤ T72.heap.size := Nat.le_trans Z71 Kq72.1
    have Kk72 : Keep h0 T72.heap [] := K71.trans Kq72 all0
    show own_Go _ _ _ _ (T72.setTop (mkF m 98 #[.val (.int u0), .val (.int u1), .val (.int u2), .val (.int u3), .val (.int (3 : Int32)), .val (.int (u1.toInt8.toInt32)), .val (.int (u2.toInt8.toInt32)), .val (.int (u3.toInt8.toInt32)), .val (.ref b68), .unset] [(.ref bq72)]))
    refine own_st (fun _ k => XS.astore X72.here hx rfl (hb hby at_98) rfl rfl (l' := #[.val (.int u0), .val (.int u1), .val (.int u2), .val (.int u3), .val (.int (3 : Int32)), .val (.int (u1.toInt8.toInt32)), .val (.int (u2.toInt8.toInt32)), .val (.int (u3.toInt8.toInt32)), .val (.ref b68), .val (.ref bq72)]) rfl k) ?_
    show own_Go _ _ _ _ (T72.setTop (mkF m 100 #[.val (.int u0), .val (.int u1), .val (.int u2), .val (.int u3), .val (.int (3 : Int32)), .val (.int (u1.toInt8.toInt32)), .val (.int (u2.toInt8.toInt32)), .val (.int (u3.toInt8.toInt32)), .val (.ref b68), .val (.ref bq72)] []))
    refine own_st (fun _ k => XS.aload X72.here hx rfl (hb hby at_100) rfl rfl k) ?_
    show own_Go _ _ _ _ (T72.setTop (mkF m 102 #[.val (.int u0), .val (.int u1), .val (.int u2), .val (.int u3), .val (.int (3 : Int32)), .val (.int (u1.toInt8.toInt32)), .val (.int (u2.toInt8.toInt32)), .val (.int (u3.toInt8.toInt32)), .val (.ref b68), .val (.ref bq72)] [(.ref bq72)]))
    refine own_st (fun _ k => XS.ifnullNo X72.here hx rfl (hb hby at_102) rfl k) ?_
    show own_Go _ _ _ _ (T72.setTop (mkF m 105 #[.val (.int u0), .val (.int u1), .val (.int u2), .val (.int u3), .val (.int (3 : Int32)), .val (.int (u1.toInt8.toInt32)), .val (.int (u2.toInt8.toInt32)), .val (.int (u3.toInt8.toInt32)), .val (.ref b68), .val (.ref bq72)] []))
    refine own_st (fun _ k => XS.aload X72.here hx rfl (hb hby at_105) rfl rfl k) ?_
    show own_Go _ _ _ _ (T72.setTop (mkF m 107 #[.val (.int u0), .val (.int u1), .val (.int u2), .val (.int u3), .val (.int (3 : Int32)), .val (.int (u1.toInt8.toInt32)), .val (.int (u2.toInt8.toInt32)), .val (.int (u3.toInt8.toInt32)), .val (.ref b68), .val (.ref bq72)] [(.ref bq72)]))
    obtain ⟨cl73, Ar73, -, Sz73, Nn73, -, -⟩ := id Vq72
    refine own_st (X72.arraylength hx Ar73.1 (State.isArrayOf_alike hZ.alike Ar73.2.1) (g := (mkF m 107 #[.val (.int u0), .val (.int u1), .val (.int u2), .val (.int u3), .val (.int (3 : Int32)), .val (.int (u1.toInt8.toInt32)), .val (.int (u2.toInt8.toInt32)), .val (.int (u3.toInt8.toInt32)), .val (.ref b68), .val (.ref bq72)] [(.ref bq72)])) rfl rfl (hb hby at_107)) ?_
    rw [len_of Sz73 Nn73]
    show own_Go _ _ _ _ (T72.setTop (mkF m 108 #[.val (.int u0), .val (.int u1), .val (.int u2), .val (.int u3), .val (.int (3 : Int32)), .val (.int (u1.toInt8.toInt32)), .val (.int (u2.toInt8.toInt32)), .val (.int (u3.toInt8.toInt32)), .val (.ref b68), .val (.ref bq72)] [(.int (6 : Int32))]))
    refine own_st (fun _ k => XS.iload X72.here hx rfl (hb hby at_108) rfl k) ?_
    show own_Go _ _ _ _ (T72.setTop (mkF m 110 #[.val (.int u0), .val (.int u1), .val (.int u2), .val (.int u3), .val (.int (3 : Int32)), .val (.int (u1.toInt8.toInt32)), .val (.int (u2.toInt8.toInt32)), .val (.int (u3.toInt8.toInt32)), .val (.ref b68), .val (.ref bq72)] [(.int (3 : Int32)), (.int (6 : Int32))]))
    refine own_st (fun _ k => XS.iconst X72.here hx rfl (hb hby at_110) k) ?_
    show own_Go _ _ _ _ (T72.setTop (mkF m 111 #[.val (.int u0), .val (.int u1), .val (.int u2), .val (.int u3), .val (.int (3 : Int32)), .val (.int (u1.toInt8.toInt32)), .val (.int (u2.toInt8.toInt32)), .val (.int (u3.toInt8.toInt32)), .val (.ref b68), .val (.ref bq72)] [(.int (3 : Int32)), (.int (3 : Int32)), (.int (6 : Int32))]))
    refine own_st (fun _ k => XS.iadd X72.here hx rfl (hb hby at_111) rfl k) ?_
    show own_Go _ _ _ _ (T72.setTop (mkF m 112 #[.val (.int u0), .val (.int u1), .val (.int u2), .val (.int u3), .val (.int (3 : Int32)), .val (.int (u1.toInt8.toInt32)), .val (.int (u2.toInt8.toInt32)), .val (.int (u3.toInt8.toInt32)), .val (.ref b68), .val (.ref bq72)] [(.int (6 : Int32)), (.int (6 : Int32))]))
    refine own_st (fun _ k => XS.icmpYes X72.here hx rfl (pc0 := 112) (pc' := 117) rfl (hb hby at_112) rfl (teq (by decide : ((6 : Int32) = (6 : Int32)))).1 (by decide) (by decide) k) ?_
    show own_Go _ _ _ _ (T72.setTop (mkF m 117 #[.val (.int u0), .val (.int u1), .val (.int u2), .val (.int u3), .val (.int (3 : Int32)), .val (.int (u1.toInt8.toInt32)), .val (.int (u2.toInt8.toInt32)), .val (.int (u3.toInt8.toInt32)), .val (.ref b68), .val (.ref bq72)] []))
    refine own_st (fun _ k => XS.aload X72.here hx rfl (hb hby at_117) rfl rfl k) ?_
    show own_Go _ _ _ _ (T72.setTop (mkF m 119 #[.val (.int u0), .val (.int u1), .val (.int u2), .val (.int u3), .val (.int (3 : Int32)), .val (.int (u1.toInt8.toInt32)), .val (.int (u2.toInt8.toInt32)), .val (.int (u3.toInt8.toInt32)), .val (.ref b68), .val (.ref bq72)] [(.ref bq72)]))
    refine own_st (fun _ k => XS.iconst X72.here hx rfl (hb hby at_119) k) ?_
    show own_Go _ _ _ _ (T72.setTop (mkF m 120 #[.val (.int u0), .val (.int u1), .val (.int u2), .val (.int u3), .val (.int (3 : Int32)), .val (.int (u1.toInt8.toInt32)), .val (.int (u2.toInt8.toInt32)), .val (.int (u3.toInt8.toInt32)), .val (.ref b68), .val (.ref bq72)] [(.int (0 : Int32)), (.ref bq72)]))
    obtain ⟨cl74, Ar74, -, Sz74, Nn74, Hs74, -⟩ := id Vq72
    have hin74 : ¬ ((0 : Int32) < 0 ∨ cl74.slots.size ≤ ((0 : Int32)).toNatClampNeg) := inb_of Sz74 ⟨(by decide : ¬ ((0 : Int32) < (0 : Int32))), (by decide : (0 : Int32) < (6 : Int32))⟩
    have hat74 : cl74.slots[((0 : Int32)).toNatClampNeg]? = some (.int (11 : Int32)) := Hs74.at hin74 rfl
    refine own_st (X72.baloadBytes hx (j := (0 : Int32)) (v := (.int (11 : Int32))) Ar74.1 (State.isArrayOf_alike hZ.alike Ar74.2.1) Ar74.2.2 hin74 hat74 (g := (mkF m 120 #[.val (.int u0), .val (.int u1), .val (.int u2), .val (.int u3), .val (.int (3 : Int32)), .val (.int (u1.toInt8.toInt32)), .val (.int (u2.toInt8.toInt32)), .val (.int (u3.toInt8.toInt32)), .val (.ref b68), .val (.ref bq72)] [(.int (0 : Int32)), (.ref bq72)])) rfl rfl (hb hby at_120)) ?_
    show own_Go _ _ _ _ (T72.setTop (mkF m 121 #[.val (.int u0), .val (.int u1), .val (.int u2), .val (.int u3), .val (.int (3 : Int32)), .val (.int (u1.toInt8.toInt32)), .val (.int (u2.toInt8.toInt32)), .val (.int (u3.toInt8.toInt32)), .val (.ref b68), .val (.ref bq72)] [(.int (11 : Int32))]))
    refine own_st (fun _ k => XS.bipush X72.here hx rfl (hb hby at_121) k) ?_
    show own_Go _ _ _ _ (T72.setTop (mkF m 123 #[.val (.int u0), .val (.int u1), .val (.int u2), .val (.int u3), .val (.int (3 : Int32)), .val (.int (u1.toInt8.toInt32)), .val (.int (u2.toInt8.toInt32)), .val (.int (u3.toInt8.toInt32)), .val (.ref b68), .val (.ref bq72)] [(.int (11 : Int32)), (.int (11 : Int32))]))
    refine own_st (fun _ k => XS.icmpYes X72.here hx rfl (pc0 := 123) (pc' := 128) rfl (hb hby at_123) rfl (teq (by decide : ((11 : Int32) = (11 : Int32)))).1 (by decide) (by decide) k) ?_
    show own_Go _ _ _ _ (T72.setTop (mkF m 128 #[.val (.int u0), .val (.int u1), .val (.int u2), .val (.int u3), .val (.int (3 : Int32)), .val (.int (u1.toInt8.toInt32)), .val (.int (u2.toInt8.toInt32)), .val (.int (u3.toInt8.toInt32)), .val (.ref b68), .val (.ref bq72)] []))
    refine own_st (fun _ k => XS.iload X72.here hx rfl (hb hby at_128) rfl k) ?_
    show own_Go _ _ _ _ (T72.setTop (mkF m 130 #[.val (.int u0), .val (.int u1), .val (.int u2), .val (.int u3), .val (.int (3 : Int32)), .val (.int (u1.toInt8.toInt32)), .val (.int (u2.toInt8.toInt32)), .val (.int (u3.toInt8.toInt32)), .val (.ref b68), .val (.ref bq72)] [(.int (3 : Int32))]))
    refine own_st (fun _ k => XS.iconst X72.here hx rfl (hb hby at_130) k) ?_
    show own_Go _ _ _ _ (T72.setTop (mkF m 131 #[.val (.int u0), .val (.int u1), .val (.int u2), .val (.int u3), .val (.int (3 : Int32)), .val (.int (u1.toInt8.toInt32)), .val (.int (u2.toInt8.toInt32)), .val (.int (u3.toInt8.toInt32)), .val (.ref b68), .val (.ref bq72)] [(.int (1 : Int32)), (.int (3 : Int32))]))
    refine own_st (fun _ k => XS.icmpNo X72.here hx rfl (hb hby at_131) rfl (flt (by decide : ¬ ((3 : Int32) < (1 : Int32)))).1 k) ?_
    show own_Go _ _ _ _ (T72.setTop (mkF m 134 #[.val (.int u0), .val (.int u1), .val (.int u2), .val (.int u3), .val (.int (3 : Int32)), .val (.int (u1.toInt8.toInt32)), .val (.int (u2.toInt8.toInt32)), .val (.int (u3.toInt8.toInt32)), .val (.ref b68), .val (.ref bq72)] []))
    refine own_st (fun _ k => XS.aload X72.here hx rfl (hb hby at_134) rfl rfl k) ?_
    show own_Go _ _ _ _ (T72.setTop (mkF m 136 #[.val (.int u0), .val (.int u1), .val (.int u2), .val (.int u3), .val (.int (3 : Int32)), .val (.int (u1.toInt8.toInt32)), .val (.int (u2.toInt8.toInt32)), .val (.int (u3.toInt8.toInt32)), .val (.ref b68), .val (.ref bq72)] [(.ref bq72)]))
    refine own_st (fun _ k => XS.iconst X72.here hx rfl (hb hby at_136) k) ?_
    show own_Go _ _ _ _ (T72.setTop (mkF m 137 #[.val (.int u0), .val (.int u1), .val (.int u2), .val (.int u3), .val (.int (3 : Int32)), .val (.int (u1.toInt8.toInt32)), .val (.int (u2.toInt8.toInt32)), .val (.int (u3.toInt8.toInt32)), .val (.ref b68), .val (.ref bq72)] [(.int (1 : Int32)), (.ref bq72)]))
    obtain ⟨cl75, Ar75, -, Sz75, Nn75, Hs75, -⟩ := id Vq72
    have hin75 : ¬ ((1 : Int32) < 0 ∨ cl75.slots.size ≤ ((1 : Int32)).toNatClampNeg) := inb_of Sz75 ⟨(by decide : ¬ ((1 : Int32) < (0 : Int32))), (by decide : (1 : Int32) < (6 : Int32))⟩
    have hat75 : cl75.slots[((1 : Int32)).toNatClampNeg]? = some (.int (u1.toInt8.toInt32)) := Hs75.at hin75 rfl
    refine own_st (X72.baloadBytes hx (j := (1 : Int32)) (v := (.int (u1.toInt8.toInt32))) Ar75.1 (State.isArrayOf_alike hZ.alike Ar75.2.1) Ar75.2.2 hin75 hat75 (g := (mkF m 137 #[.val (.int u0), .val (.int u1), .val (.int u2), .val (.int u3), .val (.int (3 : Int32)), .val (.int (u1.toInt8.toInt32)), .val (.int (u2.toInt8.toInt32)), .val (.int (u3.toInt8.toInt32)), .val (.ref b68), .val (.ref bq72)] [(.int (1 : Int32)), (.ref bq72)])) rfl rfl (hb hby at_137)) ?_
    show own_Go _ _ _ _ (T72.setTop (mkF m 138 #[.val (.int u0), .val (.int u1), .val (.int u2), .val (.int u3), .val (.int (3 : Int32)), .val (.int (u1.toInt8.toInt32)), .val (.int (u2.toInt8.toInt32)), .val (.int (u3.toInt8.toInt32)), .val (.ref b68), .val (.ref bq72)] [(.int (u1.toInt8.toInt32))]))
    refine own_st (fun _ k => XS.iload X72.here hx rfl (hb hby at_138) rfl k) ?_
    show own_Go _ _ _ _ (T72.setTop (mkF m 140 #[.val (.int u0), .val (.int u1), .val (.int u2), .val (.int u3), .val (.int (3 : Int32)), .val (.int (u1.toInt8.toInt32)), .val (.int (u2.toInt8.toInt32)), .val (.int (u3.toInt8.toInt32)), .val (.ref b68), .val (.ref bq72)] [(.int (u1.toInt8.toInt32)), (.int (u1.toInt8.toInt32))]))
    refine own_st (fun _ k => XS.icmpYes X72.here hx rfl (pc0 := 140) (pc' := 145) rfl (hb hby at_140) rfl (teq (rfl : (u1.toInt8.toInt32) = (u1.toInt8.toInt32))).1 (by decide) (by decide) k) ?_
    show own_Go _ _ _ _ (T72.setTop (mkF m 145 #[.val (.int u0), .val (.int u1), .val (.int u2), .val (.int u3), .val (.int (3 : Int32)), .val (.int (u1.toInt8.toInt32)), .val (.int (u2.toInt8.toInt32)), .val (.int (u3.toInt8.toInt32)), .val (.ref b68), .val (.ref bq72)] []))
    refine own_st (fun _ k => XS.iload X72.here hx rfl (hb hby at_145) rfl k) ?_
    show own_Go _ _ _ _ (T72.setTop (mkF m 147 #[.val (.int u0), .val (.int u1), .val (.int u2), .val (.int u3), .val (.int (3 : Int32)), .val (.int (u1.toInt8.toInt32)), .val (.int (u2.toInt8.toInt32)), .val (.int (u3.toInt8.toInt32)), .val (.ref b68), .val (.ref bq72)] [(.int (3 : Int32))]))
    refine own_st (fun _ k => XS.iconst X72.here hx rfl (hb hby at_147) k) ?_
    show own_Go _ _ _ _ (T72.setTop (mkF m 148 #[.val (.int u0), .val (.int u1), .val (.int u2), .val (.int u3), .val (.int (3 : Int32)), .val (.int (u1.toInt8.toInt32)), .val (.int (u2.toInt8.toInt32)), .val (.int (u3.toInt8.toInt32)), .val (.ref b68), .val (.ref bq72)] [(.int (2 : Int32)), (.int (3 : Int32))]))
    refine own_st (fun _ k => XS.icmpNo X72.here hx rfl (hb hby at_148) rfl (flt (by decide : ¬ ((3 : Int32) < (2 : Int32)))).1 k) ?_
    show own_Go _ _ _ _ (T72.setTop (mkF m 151 #[.val (.int u0), .val (.int u1), .val (.int u2), .val (.int u3), .val (.int (3 : Int32)), .val (.int (u1.toInt8.toInt32)), .val (.int (u2.toInt8.toInt32)), .val (.int (u3.toInt8.toInt32)), .val (.ref b68), .val (.ref bq72)] []))
    refine own_st (fun _ k => XS.aload X72.here hx rfl (hb hby at_151) rfl rfl k) ?_
    show own_Go _ _ _ _ (T72.setTop (mkF m 153 #[.val (.int u0), .val (.int u1), .val (.int u2), .val (.int u3), .val (.int (3 : Int32)), .val (.int (u1.toInt8.toInt32)), .val (.int (u2.toInt8.toInt32)), .val (.int (u3.toInt8.toInt32)), .val (.ref b68), .val (.ref bq72)] [(.ref bq72)]))
    refine own_st (fun _ k => XS.iconst X72.here hx rfl (hb hby at_153) k) ?_
    show own_Go _ _ _ _ (T72.setTop (mkF m 154 #[.val (.int u0), .val (.int u1), .val (.int u2), .val (.int u3), .val (.int (3 : Int32)), .val (.int (u1.toInt8.toInt32)), .val (.int (u2.toInt8.toInt32)), .val (.int (u3.toInt8.toInt32)), .val (.ref b68), .val (.ref bq72)] [(.int (2 : Int32)), (.ref bq72)]))
    obtain ⟨cl76, Ar76, -, Sz76, Nn76, Hs76, -⟩ := id Vq72
    have hin76 : ¬ ((2 : Int32) < 0 ∨ cl76.slots.size ≤ ((2 : Int32)).toNatClampNeg) := inb_of Sz76 ⟨(by decide : ¬ ((2 : Int32) < (0 : Int32))), (by decide : (2 : Int32) < (6 : Int32))⟩
    have hat76 : cl76.slots[((2 : Int32)).toNatClampNeg]? = some (.int (u2.toInt8.toInt32)) := Hs76.at hin76 rfl
    refine own_st (X72.baloadBytes hx (j := (2 : Int32)) (v := (.int (u2.toInt8.toInt32))) Ar76.1 (State.isArrayOf_alike hZ.alike Ar76.2.1) Ar76.2.2 hin76 hat76 (g := (mkF m 154 #[.val (.int u0), .val (.int u1), .val (.int u2), .val (.int u3), .val (.int (3 : Int32)), .val (.int (u1.toInt8.toInt32)), .val (.int (u2.toInt8.toInt32)), .val (.int (u3.toInt8.toInt32)), .val (.ref b68), .val (.ref bq72)] [(.int (2 : Int32)), (.ref bq72)])) rfl rfl (hb hby at_154)) ?_
    show own_Go _ _ _ _ (T72.setTop (mkF m 155 #[.val (.int u0), .val (.int u1), .val (.int u2), .val (.int u3), .val (.int (3 : Int32)), .val (.int (u1.toInt8.toInt32)), .val (.int (u2.toInt8.toInt32)), .val (.int (u3.toInt8.toInt32)), .val (.ref b68), .val (.ref bq72)] [(.int (u2.toInt8.toInt32))]))
    refine own_st (fun _ k => XS.iload X72.here hx rfl (hb hby at_155) rfl k) ?_
    show own_Go _ _ _ _ (T72.setTop (mkF m 157 #[.val (.int u0), .val (.int u1), .val (.int u2), .val (.int u3), .val (.int (3 : Int32)), .val (.int (u1.toInt8.toInt32)), .val (.int (u2.toInt8.toInt32)), .val (.int (u3.toInt8.toInt32)), .val (.ref b68), .val (.ref bq72)] [(.int (u2.toInt8.toInt32)), (.int (u2.toInt8.toInt32))]))
    refine own_st (fun _ k => XS.icmpYes X72.here hx rfl (pc0 := 157) (pc' := 162) rfl (hb hby at_157) rfl (teq (rfl : (u2.toInt8.toInt32) = (u2.toInt8.toInt32))).1 (by decide) (by decide) k) ?_
    show own_Go _ _ _ _ (T72.setTop (mkF m 162 #[.val (.int u0), .val (.int u1), .val (.int u2), .val (.int u3), .val (.int (3 : Int32)), .val (.int (u1.toInt8.toInt32)), .val (.int (u2.toInt8.toInt32)), .val (.int (u3.toInt8.toInt32)), .val (.ref b68), .val (.ref bq72)] []))
    refine own_st (fun _ k => XS.iload X72.here hx rfl (hb hby at_162) rfl k) ?_
    show own_Go _ _ _ _ (T72.setTop (mkF m 164 #[.val (.int u0), .val (.int u1), .val (.int u2), .val (.int u3), .val (.int (3 : Int32)), .val (.int (u1.toInt8.toInt32)), .val (.int (u2.toInt8.toInt32)), .val (.int (u3.toInt8.toInt32)), .val (.ref b68), .val (.ref bq72)] [(.int (3 : Int32))]))
    refine own_st (fun _ k => XS.iconst X72.here hx rfl (hb hby at_164) k) ?_
    show own_Go _ _ _ _ (T72.setTop (mkF m 165 #[.val (.int u0), .val (.int u1), .val (.int u2), .val (.int u3), .val (.int (3 : Int32)), .val (.int (u1.toInt8.toInt32)), .val (.int (u2.toInt8.toInt32)), .val (.int (u3.toInt8.toInt32)), .val (.ref b68), .val (.ref bq72)] [(.int (3 : Int32)), (.int (3 : Int32))]))
    refine own_st (fun _ k => XS.icmpNo X72.here hx rfl (hb hby at_165) rfl (flt (by decide : ¬ ((3 : Int32) < (3 : Int32)))).1 k) ?_
    show own_Go _ _ _ _ (T72.setTop (mkF m 168 #[.val (.int u0), .val (.int u1), .val (.int u2), .val (.int u3), .val (.int (3 : Int32)), .val (.int (u1.toInt8.toInt32)), .val (.int (u2.toInt8.toInt32)), .val (.int (u3.toInt8.toInt32)), .val (.ref b68), .val (.ref bq72)] []))
    refine own_st (fun _ k => XS.aload X72.here hx rfl (hb hby at_168) rfl rfl k) ?_
    show own_Go _ _ _ _ (T72.setTop (mkF m 170 #[.val (.int u0), .val (.int u1), .val (.int u2), .val (.int u3), .val (.int (3 : Int32)), .val (.int (u1.toInt8.toInt32)), .val (.int (u2.toInt8.toInt32)), .val (.int (u3.toInt8.toInt32)), .val (.ref b68), .val (.ref bq72)] [(.ref bq72)]))
    refine own_st (fun _ k => XS.iconst X72.here hx rfl (hb hby at_170) k) ?_
    show own_Go _ _ _ _ (T72.setTop (mkF m 171 #[.val (.int u0), .val (.int u1), .val (.int u2), .val (.int u3), .val (.int (3 : Int32)), .val (.int (u1.toInt8.toInt32)), .val (.int (u2.toInt8.toInt32)), .val (.int (u3.toInt8.toInt32)), .val (.ref b68), .val (.ref bq72)] [(.int (3 : Int32)), (.ref bq72)]))
    obtain ⟨cl77, Ar77, -, Sz77, Nn77, Hs77, -⟩ := id Vq72
    have hin77 : ¬ ((3 : Int32) < 0 ∨ cl77.slots.size ≤ ((3 : Int32)).toNatClampNeg) := inb_of Sz77 ⟨(by decide : ¬ ((3 : Int32) < (0 : Int32))), (by decide : (3 : Int32) < (6 : Int32))⟩
    have hat77 : cl77.slots[((3 : Int32)).toNatClampNeg]? = some (.int (u3.toInt8.toInt32)) := Hs77.at hin77 rfl
    refine own_st (X72.baloadBytes hx (j := (3 : Int32)) (v := (.int (u3.toInt8.toInt32))) Ar77.1 (State.isArrayOf_alike hZ.alike Ar77.2.1) Ar77.2.2 hin77 hat77 (g := (mkF m 171 #[.val (.int u0), .val (.int u1), .val (.int u2), .val (.int u3), .val (.int (3 : Int32)), .val (.int (u1.toInt8.toInt32)), .val (.int (u2.toInt8.toInt32)), .val (.int (u3.toInt8.toInt32)), .val (.ref b68), .val (.ref bq72)] [(.int (3 : Int32)), (.ref bq72)])) rfl rfl (hb hby at_171)) ?_
    show own_Go _ _ _ _ (T72.setTop (mkF m 172 #[.val (.int u0), .val (.int u1), .val (.int u2), .val (.int u3), .val (.int (3 : Int32)), .val (.int (u1.toInt8.toInt32)), .val (.int (u2.toInt8.toInt32)), .val (.int (u3.toInt8.toInt32)), .val (.ref b68), .val (.ref bq72)] [(.int (u3.toInt8.toInt32))]))
    refine own_st (fun _ k => XS.iload X72.here hx rfl (hb hby at_172) rfl k) ?_
    show own_Go _ _ _ _ (T72.setTop (mkF m 174 #[.val (.int u0), .val (.int u1), .val (.int u2), .val (.int u3), .val (.int (3 : Int32)), .val (.int (u1.toInt8.toInt32)), .val (.int (u2.toInt8.toInt32)), .val (.int (u3.toInt8.toInt32)), .val (.ref b68), .val (.ref bq72)] [(.int (u3.toInt8.toInt32)), (.int (u3.toInt8.toInt32))]))
    refine own_st (fun _ k => XS.icmpYes X72.here hx rfl (pc0 := 174) (pc' := 179) rfl (hb hby at_174) rfl (teq (rfl : (u3.toInt8.toInt32) = (u3.toInt8.toInt32))).1 (by decide) (by decide) k) ?_
    show own_Go _ _ _ _ (T72.setTop (mkF m 179 #[.val (.int u0), .val (.int u1), .val (.int u2), .val (.int u3), .val (.int (3 : Int32)), .val (.int (u1.toInt8.toInt32)), .val (.int (u2.toInt8.toInt32)), .val (.int (u3.toInt8.toInt32)), .val (.ref b68), .val (.ref bq72)] []))
    refine own_st (fun _ k => XS.aload X72.here hx rfl (hb hby at_179) rfl rfl k) ?_
    show own_Go _ _ _ _ (T72.setTop (mkF m 181 #[.val (.int u0), .val (.int u1), .val (.int u2), .val (.int u3), .val (.int (3 : Int32)), .val (.int (u1.toInt8.toInt32)), .val (.int (u2.toInt8.toInt32)), .val (.int (u3.toInt8.toInt32)), .val (.ref b68), .val (.ref bq72)] [(.ref bq72)]))
    refine own_st (fun _ k => XS.iload X72.here hx rfl (hb hby at_181) rfl k) ?_
    show own_Go _ _ _ _ (T72.setTop (mkF m 183 #[.val (.int u0), .val (.int u1), .val (.int u2), .val (.int u3), .val (.int (3 : Int32)), .val (.int (u1.toInt8.toInt32)), .val (.int (u2.toInt8.toInt32)), .val (.int (u3.toInt8.toInt32)), .val (.ref b68), .val (.ref bq72)] [(.int (3 : Int32)), (.ref bq72)]))
    refine own_st (fun _ k => XS.iconst X72.here hx rfl (hb hby at_183) k) ?_
    show own_Go _ _ _ _ (T72.setTop (mkF m 184 #[.val (.int u0), .val (.int u1), .val (.int u2), .val (.int u3), .val (.int (3 : Int32)), .val (.int (u1.toInt8.toInt32)), .val (.int (u2.toInt8.toInt32)), .val (.int (u3.toInt8.toInt32)), .val (.ref b68), .val (.ref bq72)] [(.int (1 : Int32)), (.int (3 : Int32)), (.ref bq72)]))
    refine own_st (fun _ k => XS.iadd X72.here hx rfl (hb hby at_184) rfl k) ?_
    show own_Go _ _ _ _ (T72.setTop (mkF m 185 #[.val (.int u0), .val (.int u1), .val (.int u2), .val (.int u3), .val (.int (3 : Int32)), .val (.int (u1.toInt8.toInt32)), .val (.int (u2.toInt8.toInt32)), .val (.int (u3.toInt8.toInt32)), .val (.ref b68), .val (.ref bq72)] [(.int (4 : Int32)), (.ref bq72)]))
    obtain ⟨cl78, Ar78, -, Sz78, Nn78, Hs78, -⟩ := id Vq72
    have hin78 : ¬ ((4 : Int32) < 0 ∨ cl78.slots.size ≤ ((4 : Int32)).toNatClampNeg) := inb_of Sz78 ⟨(by decide : ¬ ((4 : Int32) < (0 : Int32))), (by decide : (4 : Int32) < (6 : Int32))⟩
    have hat78 : cl78.slots[((4 : Int32)).toNatClampNeg]? = some (.int (28 : Int32)) := Hs78.at hin78 rfl
    refine own_st (X72.baloadBytes hx (j := (4 : Int32)) (v := (.int (28 : Int32))) Ar78.1 (State.isArrayOf_alike hZ.alike Ar78.2.1) Ar78.2.2 hin78 hat78 (g := (mkF m 185 #[.val (.int u0), .val (.int u1), .val (.int u2), .val (.int u3), .val (.int (3 : Int32)), .val (.int (u1.toInt8.toInt32)), .val (.int (u2.toInt8.toInt32)), .val (.int (u3.toInt8.toInt32)), .val (.ref b68), .val (.ref bq72)] [(.int (4 : Int32)), (.ref bq72)])) rfl rfl (hb hby at_185)) ?_
    show own_Go _ _ _ _ (T72.setTop (mkF m 186 #[.val (.int u0), .val (.int u1), .val (.int u2), .val (.int u3), .val (.int (3 : Int32)), .val (.int (u1.toInt8.toInt32)), .val (.int (u2.toInt8.toInt32)), .val (.int (u3.toInt8.toInt32)), .val (.ref b68), .val (.ref bq72)] [(.int (28 : Int32))]))
    refine own_st (fun _ k => XS.bipush X72.here hx rfl (hb hby at_186) k) ?_
    show own_Go _ _ _ _ (T72.setTop (mkF m 188 #[.val (.int u0), .val (.int u1), .val (.int u2), .val (.int u3), .val (.int (3 : Int32)), .val (.int (u1.toInt8.toInt32)), .val (.int (u2.toInt8.toInt32)), .val (.int (u3.toInt8.toInt32)), .val (.ref b68), .val (.ref bq72)] [(.int (28 : Int32)), (.int (28 : Int32))]))
    refine own_st (fun _ k => XS.icmpNo X72.here hx rfl (hb hby at_188) rfl (teq (by decide : ((28 : Int32) = (28 : Int32)))).2 k) ?_
    show own_Go _ _ _ _ (T72.setTop (mkF m 191 #[.val (.int u0), .val (.int u1), .val (.int u2), .val (.int u3), .val (.int (3 : Int32)), .val (.int (u1.toInt8.toInt32)), .val (.int (u2.toInt8.toInt32)), .val (.int (u3.toInt8.toInt32)), .val (.ref b68), .val (.ref bq72)] []))
    refine own_st (fun _ k => XS.aload X72.here hx rfl (hb hby at_191) rfl rfl k) ?_
    show own_Go _ _ _ _ (T72.setTop (mkF m 193 #[.val (.int u0), .val (.int u1), .val (.int u2), .val (.int u3), .val (.int (3 : Int32)), .val (.int (u1.toInt8.toInt32)), .val (.int (u2.toInt8.toInt32)), .val (.int (u3.toInt8.toInt32)), .val (.ref b68), .val (.ref bq72)] [(.ref bq72)]))
    refine own_st (fun _ k => XS.iload X72.here hx rfl (hb hby at_193) rfl k) ?_
    show own_Go _ _ _ _ (T72.setTop (mkF m 195 #[.val (.int u0), .val (.int u1), .val (.int u2), .val (.int u3), .val (.int (3 : Int32)), .val (.int (u1.toInt8.toInt32)), .val (.int (u2.toInt8.toInt32)), .val (.int (u3.toInt8.toInt32)), .val (.ref b68), .val (.ref bq72)] [(.int (3 : Int32)), (.ref bq72)]))
    refine own_st (fun _ k => XS.iconst X72.here hx rfl (hb hby at_195) k) ?_
    show own_Go _ _ _ _ (T72.setTop (mkF m 196 #[.val (.int u0), .val (.int u1), .val (.int u2), .val (.int u3), .val (.int (3 : Int32)), .val (.int (u1.toInt8.toInt32)), .val (.int (u2.toInt8.toInt32)), .val (.int (u3.toInt8.toInt32)), .val (.ref b68), .val (.ref bq72)] [(.int (2 : Int32)), (.int (3 : Int32)), (.ref bq72)]))
    refine own_st (fun _ k => XS.iadd X72.here hx rfl (hb hby at_196) rfl k) ?_
    show own_Go _ _ _ _ (T72.setTop (mkF m 197 #[.val (.int u0), .val (.int u1), .val (.int u2), .val (.int u3), .val (.int (3 : Int32)), .val (.int (u1.toInt8.toInt32)), .val (.int (u2.toInt8.toInt32)), .val (.int (u3.toInt8.toInt32)), .val (.ref b68), .val (.ref bq72)] [(.int (5 : Int32)), (.ref bq72)]))
    obtain ⟨cl79, Ar79, -, Sz79, Nn79, Hs79, -⟩ := id Vq72
    have hin79 : ¬ ((5 : Int32) < 0 ∨ cl79.slots.size ≤ ((5 : Int32)).toNatClampNeg) := inb_of Sz79 ⟨(by decide : ¬ ((5 : Int32) < (0 : Int32))), (by decide : (5 : Int32) < (6 : Int32))⟩
    have hat79 : cl79.slots[((5 : Int32)).toNatClampNeg]? = some (.int (13 : Int32)) := Hs79.at hin79 rfl
    refine own_st (X72.baloadBytes hx (j := (5 : Int32)) (v := (.int (13 : Int32))) Ar79.1 (State.isArrayOf_alike hZ.alike Ar79.2.1) Ar79.2.2 hin79 hat79 (g := (mkF m 197 #[.val (.int u0), .val (.int u1), .val (.int u2), .val (.int u3), .val (.int (3 : Int32)), .val (.int (u1.toInt8.toInt32)), .val (.int (u2.toInt8.toInt32)), .val (.int (u3.toInt8.toInt32)), .val (.ref b68), .val (.ref bq72)] [(.int (5 : Int32)), (.ref bq72)])) rfl rfl (hb hby at_197)) ?_
    show own_Go _ _ _ _ (T72.setTop (mkF m 198 #[.val (.int u0), .val (.int u1), .val (.int u2), .val (.int u3), .val (.int (3 : Int32)), .val (.int (u1.toInt8.toInt32)), .val (.int (u2.toInt8.toInt32)), .val (.int (u3.toInt8.toInt32)), .val (.ref b68), .val (.ref bq72)] [(.int (13 : Int32))]))
    refine own_st (fun _ k => XS.bipush X72.here hx rfl (hb hby at_198) k) ?_
    show own_Go _ _ _ _ (T72.setTop (mkF m 200 #[.val (.int u0), .val (.int u1), .val (.int u2), .val (.int u3), .val (.int (3 : Int32)), .val (.int (u1.toInt8.toInt32)), .val (.int (u2.toInt8.toInt32)), .val (.int (u3.toInt8.toInt32)), .val (.ref b68), .val (.ref bq72)] [(.int (13 : Int32)), (.int (13 : Int32))]))
    refine own_st (fun _ k => XS.icmpYes X72.here hx rfl (pc0 := 200) (pc' := 205) rfl (hb hby at_200) rfl (teq (by decide : ((13 : Int32) = (13 : Int32)))).1 (by decide) (by decide) k) ?_
    show own_Go _ _ _ _ (T72.setTop (mkF m 205 #[.val (.int u0), .val (.int u1), .val (.int u2), .val (.int u3), .val (.int (3 : Int32)), .val (.int (u1.toInt8.toInt32)), .val (.int (u2.toInt8.toInt32)), .val (.int (u3.toInt8.toInt32)), .val (.ref b68), .val (.ref bq72)] []))
    refine own_st (fun _ k => XS.aload X72.here hx rfl (hb hby at_205) rfl rfl k) ?_
    show own_Go _ _ _ _ (T72.setTop (mkF m 207 #[.val (.int u0), .val (.int u1), .val (.int u2), .val (.int u3), .val (.int (3 : Int32)), .val (.int (u1.toInt8.toInt32)), .val (.int (u2.toInt8.toInt32)), .val (.int (u3.toInt8.toInt32)), .val (.ref b68), .val (.ref bq72)] [(.ref b68)]))
    obtain ⟨cl80, Ar80, -, Sz80, Nn80, -, -⟩ := id z72_V_b68
    refine own_st (X72.arraylength hx Ar80.1 (State.isArrayOf_alike hZ.alike Ar80.2.1) (g := (mkF m 207 #[.val (.int u0), .val (.int u1), .val (.int u2), .val (.int u3), .val (.int (3 : Int32)), .val (.int (u1.toInt8.toInt32)), .val (.int (u2.toInt8.toInt32)), .val (.int (u3.toInt8.toInt32)), .val (.ref b68), .val (.ref bq72)] [(.ref b68)])) rfl rfl (hb hby at_207)) ?_
    rw [len_of Sz80 Nn80]
    show own_Go _ _ _ _ (T72.setTop (mkF m 208 #[.val (.int u0), .val (.int u1), .val (.int u2), .val (.int u3), .val (.int (3 : Int32)), .val (.int (u1.toInt8.toInt32)), .val (.int (u2.toInt8.toInt32)), .val (.int (u3.toInt8.toInt32)), .val (.ref b68), .val (.ref bq72)] [(.int (3 : Int32))]))
    refine own_st (fun _ k => XS.iload X72.here hx rfl (hb hby at_208) rfl k) ?_
    show own_Go _ _ _ _ (T72.setTop (mkF m 210 #[.val (.int u0), .val (.int u1), .val (.int u2), .val (.int u3), .val (.int (3 : Int32)), .val (.int (u1.toInt8.toInt32)), .val (.int (u2.toInt8.toInt32)), .val (.int (u3.toInt8.toInt32)), .val (.ref b68), .val (.ref bq72)] [(.int (3 : Int32)), (.int (3 : Int32))]))
    refine own_st (fun _ k => XS.icmpYes X72.here hx rfl (pc0 := 210) (pc' := 215) rfl (hb hby at_210) rfl (teq (by decide : ((3 : Int32) = (3 : Int32)))).1 (by decide) (by decide) k) ?_
    show own_Go _ _ _ _ (T72.setTop (mkF m 215 #[.val (.int u0), .val (.int u1), .val (.int u2), .val (.int u3), .val (.int (3 : Int32)), .val (.int (u1.toInt8.toInt32)), .val (.int (u2.toInt8.toInt32)), .val (.int (u3.toInt8.toInt32)), .val (.ref b68), .val (.ref bq72)] []))
    refine own_st (fun _ k => XS.iload X72.here hx rfl (hb hby at_215) rfl k) ?_
    show own_Go _ _ _ _ (T72.setTop (mkF m 217 #[.val (.int u0), .val (.int u1), .val (.int u2), .val (.int u3), .val (.int (3 : Int32)), .val (.int (u1.toInt8.toInt32)), .val (.int (u2.toInt8.toInt32)), .val (.int (u3.toInt8.toInt32)), .val (.ref b68), .val (.ref bq72)] [(.int (3 : Int32))]))
    refine own_st (fun _ k => XS.iconst X72.here hx rfl (hb hby at_217) k) ?_
    show own_Go _ _ _ _ (T72.setTop (mkF m 218 #[.val (.int u0), .val (.int u1), .val (.int u2), .val (.int u3), .val (.int (3 : Int32)), .val (.int (u1.toInt8.toInt32)), .val (.int (u2.toInt8.toInt32)), .val (.int (u3.toInt8.toInt32)), .val (.ref b68), .val (.ref bq72)] [(.int (1 : Int32)), (.int (3 : Int32))]))
    refine own_st (fun _ k => XS.icmpNo X72.here hx rfl (hb hby at_218) rfl (flt (by decide : ¬ ((3 : Int32) < (1 : Int32)))).1 k) ?_
    show own_Go _ _ _ _ (T72.setTop (mkF m 221 #[.val (.int u0), .val (.int u1), .val (.int u2), .val (.int u3), .val (.int (3 : Int32)), .val (.int (u1.toInt8.toInt32)), .val (.int (u2.toInt8.toInt32)), .val (.int (u3.toInt8.toInt32)), .val (.ref b68), .val (.ref bq72)] []))
    refine own_st (fun _ k => XS.aload X72.here hx rfl (hb hby at_221) rfl rfl k) ?_
    show own_Go _ _ _ _ (T72.setTop (mkF m 223 #[.val (.int u0), .val (.int u1), .val (.int u2), .val (.int u3), .val (.int (3 : Int32)), .val (.int (u1.toInt8.toInt32)), .val (.int (u2.toInt8.toInt32)), .val (.int (u3.toInt8.toInt32)), .val (.ref b68), .val (.ref bq72)] [(.ref b68)]))
    refine own_st (fun _ k => XS.iconst X72.here hx rfl (hb hby at_223) k) ?_
    show own_Go _ _ _ _ (T72.setTop (mkF m 224 #[.val (.int u0), .val (.int u1), .val (.int u2), .val (.int u3), .val (.int (3 : Int32)), .val (.int (u1.toInt8.toInt32)), .val (.int (u2.toInt8.toInt32)), .val (.int (u3.toInt8.toInt32)), .val (.ref b68), .val (.ref bq72)] [(.int (0 : Int32)), (.ref b68)]))
    obtain ⟨cl81, Ar81, -, Sz81, Nn81, Hs81, -⟩ := id z72_V_b68
    have hin81 : ¬ ((0 : Int32) < 0 ∨ cl81.slots.size ≤ ((0 : Int32)).toNatClampNeg) := inb_of Sz81 ⟨(by decide : ¬ ((0 : Int32) < (0 : Int32))), (by decide : (0 : Int32) < (3 : Int32))⟩
    have hat81 : cl81.slots[((0 : Int32)).toNatClampNeg]? = some (.int (u1.toInt8.toInt32)) := Hs81.at hin81 rfl
    refine own_st (X72.baloadBytes hx (j := (0 : Int32)) (v := (.int (u1.toInt8.toInt32))) Ar81.1 (State.isArrayOf_alike hZ.alike Ar81.2.1) Ar81.2.2 hin81 hat81 (g := (mkF m 224 #[.val (.int u0), .val (.int u1), .val (.int u2), .val (.int u3), .val (.int (3 : Int32)), .val (.int (u1.toInt8.toInt32)), .val (.int (u2.toInt8.toInt32)), .val (.int (u3.toInt8.toInt32)), .val (.ref b68), .val (.ref bq72)] [(.int (0 : Int32)), (.ref b68)])) rfl rfl (hb hby at_224)) ?_
    show own_Go _ _ _ _ (T72.setTop (mkF m 225 #[.val (.int u0), .val (.int u1), .val (.int u2), .val (.int u3), .val (.int (3 : Int32)), .val (.int (u1.toInt8.toInt32)), .val (.int (u2.toInt8.toInt32)), .val (.int (u3.toInt8.toInt32)), .val (.ref b68), .val (.ref bq72)] [(.int (u1.toInt8.toInt32))]))
    refine own_st (fun _ k => XS.iload X72.here hx rfl (hb hby at_225) rfl k) ?_
    show own_Go _ _ _ _ (T72.setTop (mkF m 227 #[.val (.int u0), .val (.int u1), .val (.int u2), .val (.int u3), .val (.int (3 : Int32)), .val (.int (u1.toInt8.toInt32)), .val (.int (u2.toInt8.toInt32)), .val (.int (u3.toInt8.toInt32)), .val (.ref b68), .val (.ref bq72)] [(.int (u1.toInt8.toInt32)), (.int (u1.toInt8.toInt32))]))
    refine own_st (fun _ k => XS.icmpYes X72.here hx rfl (pc0 := 227) (pc' := 232) rfl (hb hby at_227) rfl (teq (rfl : (u1.toInt8.toInt32) = (u1.toInt8.toInt32))).1 (by decide) (by decide) k) ?_
    show own_Go _ _ _ _ (T72.setTop (mkF m 232 #[.val (.int u0), .val (.int u1), .val (.int u2), .val (.int u3), .val (.int (3 : Int32)), .val (.int (u1.toInt8.toInt32)), .val (.int (u2.toInt8.toInt32)), .val (.int (u3.toInt8.toInt32)), .val (.ref b68), .val (.ref bq72)] []))
    refine own_st (fun _ k => XS.iload X72.here hx rfl (hb hby at_232) rfl k) ?_
    show own_Go _ _ _ _ (T72.setTop (mkF m 234 #[.val (.int u0), .val (.int u1), .val (.int u2), .val (.int u3), .val (.int (3 : Int32)), .val (.int (u1.toInt8.toInt32)), .val (.int (u2.toInt8.toInt32)), .val (.int (u3.toInt8.toInt32)), .val (.ref b68), .val (.ref bq72)] [(.int (3 : Int32))]))
    refine own_st (fun _ k => XS.iconst X72.here hx rfl (hb hby at_234) k) ?_
    show own_Go _ _ _ _ (T72.setTop (mkF m 235 #[.val (.int u0), .val (.int u1), .val (.int u2), .val (.int u3), .val (.int (3 : Int32)), .val (.int (u1.toInt8.toInt32)), .val (.int (u2.toInt8.toInt32)), .val (.int (u3.toInt8.toInt32)), .val (.ref b68), .val (.ref bq72)] [(.int (2 : Int32)), (.int (3 : Int32))]))
    refine own_st (fun _ k => XS.icmpNo X72.here hx rfl (hb hby at_235) rfl (flt (by decide : ¬ ((3 : Int32) < (2 : Int32)))).1 k) ?_
    show own_Go _ _ _ _ (T72.setTop (mkF m 238 #[.val (.int u0), .val (.int u1), .val (.int u2), .val (.int u3), .val (.int (3 : Int32)), .val (.int (u1.toInt8.toInt32)), .val (.int (u2.toInt8.toInt32)), .val (.int (u3.toInt8.toInt32)), .val (.ref b68), .val (.ref bq72)] []))
    refine own_st (fun _ k => XS.aload X72.here hx rfl (hb hby at_238) rfl rfl k) ?_
    show own_Go _ _ _ _ (T72.setTop (mkF m 240 #[.val (.int u0), .val (.int u1), .val (.int u2), .val (.int u3), .val (.int (3 : Int32)), .val (.int (u1.toInt8.toInt32)), .val (.int (u2.toInt8.toInt32)), .val (.int (u3.toInt8.toInt32)), .val (.ref b68), .val (.ref bq72)] [(.ref b68)]))
    refine own_st (fun _ k => XS.iconst X72.here hx rfl (hb hby at_240) k) ?_
    show own_Go _ _ _ _ (T72.setTop (mkF m 241 #[.val (.int u0), .val (.int u1), .val (.int u2), .val (.int u3), .val (.int (3 : Int32)), .val (.int (u1.toInt8.toInt32)), .val (.int (u2.toInt8.toInt32)), .val (.int (u3.toInt8.toInt32)), .val (.ref b68), .val (.ref bq72)] [(.int (1 : Int32)), (.ref b68)]))
    obtain ⟨cl82, Ar82, -, Sz82, Nn82, Hs82, -⟩ := id z72_V_b68
    have hin82 : ¬ ((1 : Int32) < 0 ∨ cl82.slots.size ≤ ((1 : Int32)).toNatClampNeg) := inb_of Sz82 ⟨(by decide : ¬ ((1 : Int32) < (0 : Int32))), (by decide : (1 : Int32) < (3 : Int32))⟩
    have hat82 : cl82.slots[((1 : Int32)).toNatClampNeg]? = some (.int (u2.toInt8.toInt32)) := Hs82.at hin82 rfl
    refine own_st (X72.baloadBytes hx (j := (1 : Int32)) (v := (.int (u2.toInt8.toInt32))) Ar82.1 (State.isArrayOf_alike hZ.alike Ar82.2.1) Ar82.2.2 hin82 hat82 (g := (mkF m 241 #[.val (.int u0), .val (.int u1), .val (.int u2), .val (.int u3), .val (.int (3 : Int32)), .val (.int (u1.toInt8.toInt32)), .val (.int (u2.toInt8.toInt32)), .val (.int (u3.toInt8.toInt32)), .val (.ref b68), .val (.ref bq72)] [(.int (1 : Int32)), (.ref b68)])) rfl rfl (hb hby at_241)) ?_
    show own_Go _ _ _ _ (T72.setTop (mkF m 242 #[.val (.int u0), .val (.int u1), .val (.int u2), .val (.int u3), .val (.int (3 : Int32)), .val (.int (u1.toInt8.toInt32)), .val (.int (u2.toInt8.toInt32)), .val (.int (u3.toInt8.toInt32)), .val (.ref b68), .val (.ref bq72)] [(.int (u2.toInt8.toInt32))]))
    refine own_st (fun _ k => XS.iload X72.here hx rfl (hb hby at_242) rfl k) ?_
    show own_Go _ _ _ _ (T72.setTop (mkF m 244 #[.val (.int u0), .val (.int u1), .val (.int u2), .val (.int u3), .val (.int (3 : Int32)), .val (.int (u1.toInt8.toInt32)), .val (.int (u2.toInt8.toInt32)), .val (.int (u3.toInt8.toInt32)), .val (.ref b68), .val (.ref bq72)] [(.int (u2.toInt8.toInt32)), (.int (u2.toInt8.toInt32))]))
    refine own_st (fun _ k => XS.icmpYes X72.here hx rfl (pc0 := 244) (pc' := 249) rfl (hb hby at_244) rfl (teq (rfl : (u2.toInt8.toInt32) = (u2.toInt8.toInt32))).1 (by decide) (by decide) k) ?_
    show own_Go _ _ _ _ (T72.setTop (mkF m 249 #[.val (.int u0), .val (.int u1), .val (.int u2), .val (.int u3), .val (.int (3 : Int32)), .val (.int (u1.toInt8.toInt32)), .val (.int (u2.toInt8.toInt32)), .val (.int (u3.toInt8.toInt32)), .val (.ref b68), .val (.ref bq72)] []))
    refine own_st (fun _ k => XS.iload X72.here hx rfl (hb hby at_249) rfl k) ?_
    show own_Go _ _ _ _ (T72.setTop (mkF m 251 #[.val (.int u0), .val (.int u1), .val (.int u2), .val (.int u3), .val (.int (3 : Int32)), .val (.int (u1.toInt8.toInt32)), .val (.int (u2.toInt8.toInt32)), .val (.int (u3.toInt8.toInt32)), .val (.ref b68), .val (.ref bq72)] [(.int (3 : Int32))]))
    refine own_st (fun _ k => XS.iconst X72.here hx rfl (hb hby at_251) k) ?_
    show own_Go _ _ _ _ (T72.setTop (mkF m 252 #[.val (.int u0), .val (.int u1), .val (.int u2), .val (.int u3), .val (.int (3 : Int32)), .val (.int (u1.toInt8.toInt32)), .val (.int (u2.toInt8.toInt32)), .val (.int (u3.toInt8.toInt32)), .val (.ref b68), .val (.ref bq72)] [(.int (3 : Int32)), (.int (3 : Int32))]))
    refine own_st (fun _ k => XS.icmpNo X72.here hx rfl (hb hby at_252) rfl (flt (by decide : ¬ ((3 : Int32) < (3 : Int32)))).1 k) ?_
    show own_Go _ _ _ _ (T72.setTop (mkF m 255 #[.val (.int u0), .val (.int u1), .val (.int u2), .val (.int u3), .val (.int (3 : Int32)), .val (.int (u1.toInt8.toInt32)), .val (.int (u2.toInt8.toInt32)), .val (.int (u3.toInt8.toInt32)), .val (.ref b68), .val (.ref bq72)] []))
    refine own_st (fun _ k => XS.aload X72.here hx rfl (hb hby at_255) rfl rfl k) ?_
    show own_Go _ _ _ _ (T72.setTop (mkF m 257 #[.val (.int u0), .val (.int u1), .val (.int u2), .val (.int u3), .val (.int (3 : Int32)), .val (.int (u1.toInt8.toInt32)), .val (.int (u2.toInt8.toInt32)), .val (.int (u3.toInt8.toInt32)), .val (.ref b68), .val (.ref bq72)] [(.ref b68)]))
    refine own_st (fun _ k => XS.iconst X72.here hx rfl (hb hby at_257) k) ?_
    show own_Go _ _ _ _ (T72.setTop (mkF m 258 #[.val (.int u0), .val (.int u1), .val (.int u2), .val (.int u3), .val (.int (3 : Int32)), .val (.int (u1.toInt8.toInt32)), .val (.int (u2.toInt8.toInt32)), .val (.int (u3.toInt8.toInt32)), .val (.ref b68), .val (.ref bq72)] [(.int (2 : Int32)), (.ref b68)]))
    obtain ⟨cl83, Ar83, -, Sz83, Nn83, Hs83, -⟩ := id z72_V_b68
    have hin83 : ¬ ((2 : Int32) < 0 ∨ cl83.slots.size ≤ ((2 : Int32)).toNatClampNeg) := inb_of Sz83 ⟨(by decide : ¬ ((2 : Int32) < (0 : Int32))), (by decide : (2 : Int32) < (3 : Int32))⟩
    have hat83 : cl83.slots[((2 : Int32)).toNatClampNeg]? = some (.int (u3.toInt8.toInt32)) := Hs83.at hin83 rfl
    refine own_st (X72.baloadBytes hx (j := (2 : Int32)) (v := (.int (u3.toInt8.toInt32))) Ar83.1 (State.isArrayOf_alike hZ.alike Ar83.2.1) Ar83.2.2 hin83 hat83 (g := (mkF m 258 #[.val (.int u0), .val (.int u1), .val (.int u2), .val (.int u3), .val (.int (3 : Int32)), .val (.int (u1.toInt8.toInt32)), .val (.int (u2.toInt8.toInt32)), .val (.int (u3.toInt8.toInt32)), .val (.ref b68), .val (.ref bq72)] [(.int (2 : Int32)), (.ref b68)])) rfl rfl (hb hby at_258)) ?_
    show own_Go _ _ _ _ (T72.setTop (mkF m 259 #[.val (.int u0), .val (.int u1), .val (.int u2), .val (.int u3), .val (.int (3 : Int32)), .val (.int (u1.toInt8.toInt32)), .val (.int (u2.toInt8.toInt32)), .val (.int (u3.toInt8.toInt32)), .val (.ref b68), .val (.ref bq72)] [(.int (u3.toInt8.toInt32))]))
    refine own_st (fun _ k => XS.iload X72.here hx rfl (hb hby at_259) rfl k) ?_
    show own_Go _ _ _ _ (T72.setTop (mkF m 261 #[.val (.int u0), .val (.int u1), .val (.int u2), .val (.int u3), .val (.int (3 : Int32)), .val (.int (u1.toInt8.toInt32)), .val (.int (u2.toInt8.toInt32)), .val (.int (u3.toInt8.toInt32)), .val (.ref b68), .val (.ref bq72)] [(.int (u3.toInt8.toInt32)), (.int (u3.toInt8.toInt32))]))
    refine own_st (fun _ k => XS.icmpYes X72.here hx rfl (pc0 := 261) (pc' := 266) rfl (hb hby at_261) rfl (teq (rfl : (u3.toInt8.toInt32) = (u3.toInt8.toInt32))).1 (by decide) (by decide) k) ?_
    show own_Go _ _ _ _ (T72.setTop (mkF m 266 #[.val (.int u0), .val (.int u1), .val (.int u2), .val (.int u3), .val (.int (3 : Int32)), .val (.int (u1.toInt8.toInt32)), .val (.int (u2.toInt8.toInt32)), .val (.int (u3.toInt8.toInt32)), .val (.ref b68), .val (.ref bq72)] []))
    refine own_st (fun _ k => XS.iconst X72.here hx rfl (hb hby at_266) k) ?_
    show own_Go _ _ _ _ (T72.setTop (mkF m 267 #[.val (.int u0), .val (.int u1), .val (.int u2), .val (.int u3), .val (.int (3 : Int32)), .val (.int (u1.toInt8.toInt32)), .val (.int (u2.toInt8.toInt32)), .val (.int (u3.toInt8.toInt32)), .val (.ref b68), .val (.ref bq72)] [(.int (1 : Int32))]))
    obtain ⟨fs, hr, hrun, hended, hW, hsame⟩ := X72.leave (v := some (.int (1 : Int32))) (fun h => by rw [Bd.returns] at h; cases h)
    refine own_out (retN X72 hx (t := .boolean) Bd.returns (by simp) (hb hby at_267) hr) ⟨hrun, hended, _, _, rfl, ?_, ⟨_, rfl⟩, hW, hsame.mono (by decide) (by decide)⟩
    show Q0 Z u0 u1 u2 u3 h0 n0 _ T72.heap _
    exact ⟨rfl, N72⟩
set_option maxRecDepth 65536 in
set_option maxHeartbeats 40000000 in
theorem comes_1 {Post : Tables → Env → Array Value → State → Outcome → State → Prop} (hpost : ∀ tb e args s v u, (limb_1_1.after args s (.returned v) u = true ∧ limb_1_2.after args s (.returned v) u = true ∧ True) → FrameEnd s (.returned v) u (Jvm.fieldLocs frame_1_writes args s ++ Jvm.arrayLocs frame_1_arrays args s ++ Jvm.staticLocs frame_1_statics s) 16 128 → Post tb e args s (.returned v) u) :
    ArmFor flags0 classFile x code maxLocals ret World_1 tables_1 room_1 Calls_1 rest_1 Pre_1 Post := by
  intro l hfl _ _ p e ha hc hk s m args below hf hA hF happ hP
  obtain ⟨hcalls, hrest, hpre⟩ := hP
  obtain ⟨-, -, -, hnamed, -, -, -, hat⟩ := (Spec.applies_iff hf).mp happ
  obtain ⟨hg, hn⟩ := and_e (Cond.before_iff.mp (show (Jvm.Cond.and given_1 narrow_1).before args s = true from hpre))
  obtain ⟨h1, h2⟩ := and_e hg
  obtain ⟨ha0, h2⟩ := and_e h2
  obtain ⟨ha1, h2⟩ := and_e h2
  obtain ⟨ha2, h2⟩ := and_e h2
  have ha3 := h2
  obtain ⟨w0, w1, w2, w3, rfl⟩ : ∃ w0 w1 w2 w3 : Value, args = #[w0, w1, w2, w3] := by
    have hs : args.size = 4 := by simpa [Cond.value, given_1] using h1
    obtain ⟨L⟩ := args
    match L, hs with
    | [w0, w1, w2, w3], _ => exact ⟨w0, w1, w2, w3, rfl⟩
  have hw := fun d (hd : d ∈ tables_1) => atoms_spec (ws := Jvm.Cond.code x code maxLocals ret :: tables_1) hat d (List.mem_cons_of_mem _ hd)
  obtain ⟨i0, ei0⟩ := is_v ha0
  obtain rfl : w0 = (.int i0) := Option.some.inj ei0
  obtain ⟨i1, ei1⟩ := is_v ha1
  obtain rfl : w1 = (.int i1) := Option.some.inj ei1
  obtain ⟨i2, ei2⟩ := is_v ha2
  obtain rfl : w2 = (.int i2) := Option.some.inj ei2
  obtain ⟨i3, ei3⟩ := is_v ha3
  obtain rfl : w3 = (.int i3) := Option.some.inj ei3
  obtain ⟨n, o, h1, h2, h3, _, L, rfl, ⟨rfl, N⟩, hq⟩ := rm0 l s _ hw tables_1 i0 i1 i2 i3 s.heap s.heap.size (Nat.le_refl _)  p e ha hc hk s m _ below hf ((Spec.applies_iff_loose hf).mp happ).1 ⟨rfl, State.Warmed39.refl s, rfl⟩ trivial
  refine ⟨n, _, h1, h2, h3, hpost _ _ _ _ _ _ ⟨Cond.after_iff.mpr rfl, Cond.after_iff.mpr (eq_i res_at (Term.int_eval (1)) rfl), trivial⟩ ⟨hq.1, hq.2.1, (hq.2.2.sift fun y hy => Or.inr (N y hy)).mono (by decide) (by decide)⟩⟩
theorem main_1_1 : Claimed_1_1 := comes_1 fun _ _ _ _ _ _ h hF => ⟨h.1, hF⟩
theorem main_1_2 : Claimed_1_2 := comes_1 fun _ _ _ _ _ _ h hF => ⟨h.2.1, hF⟩
end Jvm.Pilot.@@N@@
namespace Jvm.Pilot.@@N@@
open Jvm Jvm.ClassFile Sem Op Lib Jvm.Free Jvm.Stand Jvm.Pilot.@@N@@.Jvm.D
/-! MADE BY PROGRAM (witnessworld.py) out of the Statement's table words and the real class files: 10 classes; the members and pool entries that the words name. The judged class is class 1, her method 1. -/
namespace start1
open Jvm.ClassFile
def u (s : String) : CpInfo := .utf8 (stringToUtf16 s)
/-- a pool by its gaps: so many unusable entries, then the entry; so many at the end -/
def gap : Nat → List CpInfo → List CpInfo
  | 0, r => r
  | n + 1, r => .unusable :: gap n r
def poolList (es : List (Nat × CpInfo)) (last : Nat) : List CpInfo := es.foldr (fun e r => gap e.1 (e.2 :: r)) (gap last [])
def pool (es : List (Nat × CpInfo)) (last : Nat) : Array CpInfo := ⟨poolList es last⟩
def fileOf (pool : Array CpInfo) (this : Nat) (attrs : Array Attribute := #[]) (ms : Array MethodInfo := #[]) (fl : Nat := 33) (sup : Nat := 0) (ifs : Array Nat := #[]) (fds : Array FieldInfo := #[]) : ClassFile where
  minorVersion := 0
  majorVersion := 65
  constantPool := pool
  accessFlags := fl
  thisClass := this
  superClass := sup
  interfaces := ifs
  fields := fds
  methods := ms
  attributes := attrs
def plain (name : String) (sup : Option ClassId) : Class where
  name := name
  kind := .ordinary
  loader := none
  accessFlags := 33
  super := sup
  interfaces := #[]
  cf := none
  fields := #[]
  methods := #[]
  instanceTypes := #[]
  staticTypes := #[]
  resolved := #[]
  callSites := []
  init := .initialized
  statics := none
  mirror := none

def pool0 : Array CpInfo := pool [(5, u "<init>"), (0, u "()V"), (1, .class_ 10), (1, u "java/lang/Object")] 113

def k0m0 : Method := { name := "<init>", desc := "()V", sig := { parameters := [], returnType := none }, accessFlags := 1, code := none }
/-- java/lang/Object -/
def k0 : Class := { plain "java/lang/Object" none with
  accessFlags := 33
  interfaces := #[]
  cf := some (fileOf pool0 8 #[] #[{ accessFlags := 1, nameIndex := 5, descriptorIndex := 6, attributes := #[] }] 33 0 #[] #[])
  fields := #[]
  methods := #[k0m0]
  instanceTypes := #[]
  staticTypes := #[]
  resolved := Array.replicate 124 none
  statics := none }

def pool1 : Array CpInfo := pool [(2, .class_ 4), (1, u "java/lang/Object"), (0, u "<init>"), (0, u "()V"), (0, .methodref 8 9), (0, .class_ 10), (0, .nameAndType 11 12), (0, u "quillvax/mllp/Mllp"), (0, u "frame"), (0, u "([B)[B"), (0, .class_ 14), (0, u "quillvax/mllp/MllpFramePinLaw"), (2, u "law"), (0, u "(IIII)Z")] 5

def k1m0 : Method := { name := "<init>", desc := "()V", sig := { parameters := [], returnType := none }, accessFlags := 2, code := none }
def k1c1 : Code := { maxStack := 4, maxLocals := 10, code := code, exceptionTable := #[], attributes := #[] }
def k1m1 : Method := { name := "law", desc := "(IIII)Z", sig := { parameters := [.int, .int, .int, .int], returnType := some .boolean }, accessFlags := 9, code := some k1c1 }
/-- quillvax/mllp/MllpFramePinLaw -/
def k1 : Class := { plain "quillvax/mllp/MllpFramePinLaw" (some 0) with
  accessFlags := 49
  interfaces := #[]
  cf := some (fileOf pool1 13 #[] #[{ accessFlags := 2, nameIndex := 5, descriptorIndex := 6, attributes := #[] }, { accessFlags := 9, nameIndex := 17, descriptorIndex := 18, attributes := #[] }] 49 2 #[] #[])
  fields := #[]
  methods := #[k1m0, k1m1]
  instanceTypes := #[]
  staticTypes := #[]
  resolved := Array.replicate 24 none
  statics := none }

def pool2 : Array CpInfo := pool [(2, .class_ 4), (1, u "java/lang/Object"), (0, u "<init>"), (0, u "()V"), (0, .class_ 8), (0, u "quillvax/mllp/Mllp"), (0, .methodref 10 11), (0, .class_ 12), (0, .nameAndType 13 14), (0, u "java/lang/System"), (0, u "arraycopy"), (0, u "(Ljava/lang/Object;ILjava/lang/Object;II)V"), (0, u "START_BLOCK"), (0, u "B"), (2, u "END_BLOCK"), (1, u "CARRIAGE_RETURN"), (8, u "frame"), (0, u "([B)[B"), (3, .class_ 36), (0, u "quillvax/mllp/Mllp$Reader")] 2

def k2m0 : Method := { name := "<init>", desc := "()V", sig := { parameters := [], returnType := none }, accessFlags := 2, code := none }
def k2c1 : Code := { maxStack := 5, maxLocals := 2, code := prog_7_method_3_code, exceptionTable := #[], attributes := #[] }
def k2m1 : Method := { name := "frame", desc := "([B)[B", sig := { parameters := [(.array .byte)], returnType := some (.array .byte) }, accessFlags := 9, code := some k2c1 }
/-- quillvax/mllp/Mllp -/
def k2 : Class := { plain "quillvax/mllp/Mllp" (some 0) with
  accessFlags := 49
  interfaces := #[]
  cf := some (fileOf pool2 7 #[.nestMembers #[35]] #[{ accessFlags := 2, nameIndex := 5, descriptorIndex := 6, attributes := #[] }, { accessFlags := 9, nameIndex := 30, descriptorIndex := 31, attributes := #[] }] 49 2 #[] #[{ accessFlags := 25, nameIndex := 15, descriptorIndex := 16, attributes := #[] }, { accessFlags := 24, nameIndex := 19, descriptorIndex := 16, attributes := #[] }, { accessFlags := 24, nameIndex := 21, descriptorIndex := 16, attributes := #[] }])
  fields := #[{ name := "START_BLOCK", type := .byte, accessFlags := 25, slot := 0, constantValue := 0 }, { name := "END_BLOCK", type := .byte, accessFlags := 24, slot := 1, constantValue := 0 }, { name := "CARRIAGE_RETURN", type := .byte, accessFlags := 24, slot := 2, constantValue := 0 }]
  methods := #[k2m0, k2m1]
  instanceTypes := #[]
  staticTypes := #[.byte, .byte, .byte]
  resolved := Array.replicate 39 none
  statics := none }

def pool3 : Array CpInfo := pool [(2, .class_ 4), (1, u "java/lang/Object"), (0, u "<init>"), (0, u "()V"), (1, .class_ 10), (1, u "java/lang/System"), (0, u "allowSecurityManager"), (0, u "I"), (16, u "cons"), (0, u "Ljava/io/Console;"), (77, .class_ 110), (1, u "java/lang/System$CallersHolder"), (43, u "initialErrStream"), (0, u "Ljava/io/PrintStream;"), (19, u "security"), (0, u "Ljava/lang/SecurityManager;"), (31, .class_ 209), (0, u "java/lang/System$1"), (7, u "props"), (0, u "Ljava/util/Properties;"), (2, u "lineSeparator"), (0, u "Ljava/lang/String;"), (96, .class_ 321), (1, u "java/lang/System$LoggerFinder"), (5, .class_ 328), (0, u "java/lang/System$Logger"), (67, u "err"), (2, u "out"), (91, u "notSupportedJnuEncoding"), (15, u "in"), (17, u "initialIn"), (0, u "Ljava/io/InputStream;"), (35, u "bootLayer"), (0, u "Ljava/lang/ModuleLayer;"), (99, .class_ 664), (0, u "java/lang/System$2"), (9, u "NEVER"), (2, u "MAYBE"), (49, u "arraycopy"), (0, u "(Ljava/lang/Object;ILjava/lang/Object;II)V"), (72, .class_ 802), (0, u "java/lang/System$Logger$Level")] 31

def k3m0 : Method := { name := "<init>", desc := "()V", sig := { parameters := [], returnType := none }, accessFlags := 2, code := none }
def k3m1 : Method := { name := "arraycopy", desc := "(Ljava/lang/Object;ILjava/lang/Object;II)V", sig := { parameters := [(.object "java/lang/Object"), .int, (.object "java/lang/Object"), .int, .int], returnType := none }, accessFlags := 265, code := none }
/-- java/lang/System -/
def k3 : Class := { plain "java/lang/System" (some 0) with
  accessFlags := 49
  interfaces := #[]
  cf := some (fileOf pool3 8 #[.nestMembers #[319, 327, 801, 108, 663, 208]] #[{ accessFlags := 2, nameIndex := 5, descriptorIndex := 6, attributes := #[] }, { accessFlags := 265, nameIndex := 727, descriptorIndex := 728, attributes := #[] }] 49 2 #[] #[{ accessFlags := 25, nameIndex := 507, descriptorIndex := 526, attributes := #[] }, { accessFlags := 25, nameIndex := 399, descriptorIndex := 155, attributes := #[] }, { accessFlags := 25, nameIndex := 396, descriptorIndex := 155, attributes := #[] }, { accessFlags := 10, nameIndex := 525, descriptorIndex := 526, attributes := #[] }, { accessFlags := 26, nameIndex := 674, descriptorIndex := 12, attributes := #[] }, { accessFlags := 26, nameIndex := 677, descriptorIndex := 12, attributes := #[] }, { accessFlags := 10, nameIndex := 11, descriptorIndex := 12, attributes := #[] }, { accessFlags := 74, nameIndex := 175, descriptorIndex := 176, attributes := #[] }, { accessFlags := 10, nameIndex := 491, descriptorIndex := 222, attributes := #[] }, { accessFlags := 74, nameIndex := 29, descriptorIndex := 30, attributes := #[] }, { accessFlags := 74, nameIndex := 154, descriptorIndex := 155, attributes := #[] }, { accessFlags := 10, nameIndex := 217, descriptorIndex := 218, attributes := #[] }, { accessFlags := 10, nameIndex := 221, descriptorIndex := 222, attributes := #[] }, { accessFlags := 8, nameIndex := 562, descriptorIndex := 563, attributes := #[] }])
  fields := #[{ name := "in", type := (.object "java/io/InputStream"), accessFlags := 25, slot := 0, constantValue := 0 }, { name := "out", type := (.object "java/io/PrintStream"), accessFlags := 25, slot := 1, constantValue := 0 }, { name := "err", type := (.object "java/io/PrintStream"), accessFlags := 25, slot := 2, constantValue := 0 }, { name := "initialIn", type := (.object "java/io/InputStream"), accessFlags := 10, slot := 3, constantValue := 0 }, { name := "NEVER", type := .int, accessFlags := 26, slot := 4, constantValue := 0 }, { name := "MAYBE", type := .int, accessFlags := 26, slot := 5, constantValue := 0 }, { name := "allowSecurityManager", type := .int, accessFlags := 10, slot := 6, constantValue := 0 }, { name := "security", type := (.object "java/lang/SecurityManager"), accessFlags := 74, slot := 7, constantValue := 0 }, { name := "notSupportedJnuEncoding", type := (.object "java/lang/String"), accessFlags := 10, slot := 8, constantValue := 0 }, { name := "cons", type := (.object "java/io/Console"), accessFlags := 74, slot := 9, constantValue := 0 }, { name := "initialErrStream", type := (.object "java/io/PrintStream"), accessFlags := 74, slot := 10, constantValue := 0 }, { name := "props", type := (.object "java/util/Properties"), accessFlags := 10, slot := 11, constantValue := 0 }, { name := "lineSeparator", type := (.object "java/lang/String"), accessFlags := 10, slot := 12, constantValue := 0 }, { name := "bootLayer", type := (.object "java/lang/ModuleLayer"), accessFlags := 8, slot := 13, constantValue := 0 }]
  methods := #[k3m0, k3m1]
  instanceTypes := #[]
  staticTypes := #[(.object "java/io/InputStream"), (.object "java/io/PrintStream"), (.object "java/io/PrintStream"), (.object "java/io/InputStream"), .int, .int, .int, (.object "java/lang/SecurityManager"), (.object "java/lang/String"), (.object "java/io/Console"), (.object "java/io/PrintStream"), (.object "java/util/Properties"), (.object "java/lang/String"), (.object "java/lang/ModuleLayer")]
  resolved := Array.replicate 834 none
  statics := none }

def pool4 : Array CpInfo := pool [(1, u "java/lang/Cloneable"), (0, .class_ 1), (0, u "java/lang/Object"), (0, .class_ 3)] 3

/-- java/lang/Cloneable -/
def k4 : Class := { plain "java/lang/Cloneable" (some 0) with
  accessFlags := 1537
  interfaces := #[]
  cf := some (fileOf pool4 2 #[] #[] 1537 4 #[] #[])
  fields := #[]
  methods := #[]
  instanceTypes := #[]
  staticTypes := #[]
  resolved := Array.replicate 8 none
  statics := none }

def pool5 : Array CpInfo := pool [(1, u "java/io/Serializable"), (0, .class_ 1), (0, u "java/lang/Object"), (0, .class_ 3)] 3

/-- java/io/Serializable -/
def k5 : Class := { plain "java/io/Serializable" (some 0) with
  accessFlags := 1537
  interfaces := #[]
  cf := some (fileOf pool5 2 #[] #[] 1537 4 #[] #[])
  fields := #[]
  methods := #[]
  instanceTypes := #[]
  staticTypes := #[]
  resolved := Array.replicate 8 none
  statics := none }

/-- the primitive byte -/
def k6 : Class := { plain "byte" none with kind := .primitive 'B', accessFlags := 0x411 }
/-- [B -/
def k7 : Class := { plain "[B" (some 0) with kind := .array 6 .byte, interfaces := #[4, 5], accessFlags := 1041 }

/-- the primitive int -/
def k8 : Class := { plain "int" none with kind := .primitive 'I', accessFlags := 0x411 }
/-- [I -/
def k9 : Class := { plain "[I" (some 0) with kind := .array 8 .int, interfaces := #[4, 5], accessFlags := 1041 }

def heap : Heap := #[]
def classes : Array Class := #[k0, k1, k2, k3, k4, k5, k6, k7, k8, k9]
def interned : List (Array UInt16 × Addr) := []
def slotsUsed : Nat := 0
def theMethod : MethodId := ⟨1, 1⟩
def args0 : Array Value := #[.int 5, .int 5, .int 5, .int 5]
def aboutOver (below : List Frame) : State where
  vm := { classes := classes, interned := interned.toArray }
  heap := heap
  slotsUsed := slotsUsed
  threads := #[{ frames := .invoking theMethod args0 :: below }]
def below0 : List Frame := [.native { method := ⟨0, 0⟩, args := #[] }]
def about1 : State := aboutOver below0
def p0 : Program := .bare "" "" ""
def e0 : Env := launch0.env 0 0 0
theorem w_frames : about1.frames = Frame.invoking theMethod args0 :: below0 := rfl
set_option maxRecDepth 65536 in
theorem w_args : argsFit about1.vm theMethod args0 = true := by decide +kernel
set_option maxRecDepth 65536 in
theorem w_heap : heapFits about1 = true := by decide +kernel
set_option maxRecDepth 65536 in
theorem w_runnable : about1.curStatus? = some .runnable := by decide +kernel
set_option maxRecDepth 65536 in
theorem w_alone : about1.alone = true := by decide +kernel
set_option maxRecDepth 65536 in
theorem w_named : about1.methodNamed? x = some theMethod := by decide +kernel
set_option maxRecDepth 65536 in
theorem w_hears : about1.hears theMethod below0 = true := by decide +kernel
set_option maxRecDepth 65536 in
theorem w_ripe : about1.ripe theMethod args0 below0 = true := by decide +kernel
theorem w_running : about1.status = .running := rfl
set_option maxRecDepth 65536 in
theorem w_room : about1.hasRoom e0.platform room_1 = true :=
  launch0.hasRoom_least _ room_1 (by decide +kernel) (by decide +kernel) (by decide +kernel) (by decide +kernel) (by decide +kernel) (by decide +kernel)
theorem allAtoms_all (ts : List Jvm.Cond) (a : Array Jvm.Value) (st : Jvm.State) : (allAtoms ts).before a st = ts.all (fun c => c.before a st) := by
  induction ts with
  | nil => rfl
  | cons c t ih =>
    show (Jvm.Cond.and c (allAtoms t)).before a st = _
    rw [Jvm.Cond.before_and, ih, List.all_cons]
def words1 : List Jvm.Cond := Jvm.Cond.code x code maxLocals ret :: tables_1
/-- a 'code' word, met by the world's own term for the bytes: nothing is compared byte by byte -/
theorem code_word {y : MethodName} {bytes : ByteArray} {mx : Nat} {rt : Option FieldType} {a : Array Value} {s : State} {m : MethodId} {meth : Method} {c : Code} (h1 : s.methodNamed? y = some m) (h2 : s.vm.method? m = some meth) (h3 : meth.code = some c) (h4 : c.code = bytes)
    (h5 : (c.maxLocals == mx && c.exceptionTable.isEmpty && decide (c.maxStack ≤ mostOperands) && decide (meth.sig.returnType = rt) && !meth.locks && decide (parseMethodDescriptor y.desc = some meth.sig)) = true) : (Jvm.Cond.code y bytes mx rt).before a s = true := by
  simp only [Bool.and_eq_true, beq_iff_eq, Bool.not_eq_true', decide_eq_true_eq] at h5
  obtain ⟨⟨⟨⟨⟨g1, g2⟩, g3⟩, g4⟩, g5⟩, g6⟩ := h5
  simp [Cond.before, Cond.holds, Cond.value, h1, h2, h3, h4, g1, g2, g3, g4, g5, g6]
def isCode : Jvm.Cond → Bool
  | .code _ _ _ _ => true
  | _ => false
theorem all_split {L : List Jvm.Cond} {P : Jvm.Cond → Bool} (h1 : L.all (fun c => isCode c || P c) = true) (h2 : ∀ c ∈ L.filter isCode, P c = true) : L.all P = true := by
  refine List.all_eq_true.mpr fun c hc => ?_
  have h := List.all_eq_true.mp h1 c hc
  rcases Bool.eq_false_or_eq_true (isCode c) with hi | hi
  · exact h2 c (List.mem_filter.mpr ⟨hc, hi⟩)
  · simpa [hi] using h
set_option maxRecDepth 65536 in
theorem w_c0 : (Jvm.Cond.code x code maxLocals ret).before args0 about1 = true := code_word (m := ⟨1, 1⟩) (meth := k1m1) (c := k1c1) (by decide +kernel) rfl rfl rfl (by decide +kernel)
set_option maxRecDepth 65536 in
theorem w_c1 : (Jvm.Cond.code ({ cls := "quillvax/mllp/Mllp", name := "frame", desc := "([B)[B" } : Jvm.MethodName) prog_7_method_3_code (2 : Nat) (Option.some (Jvm.ClassFile.FieldType.array Jvm.ClassFile.FieldType.byte))).before args0 about1 = true := code_word (m := ⟨2, 1⟩) (meth := k2m1) (c := k2c1) (by decide +kernel) rfl rfl rfl (by decide +kernel)
def codes1 : List Jvm.Cond := [Jvm.Cond.code x code maxLocals ret, Jvm.Cond.code ({ cls := "quillvax/mllp/Mllp", name := "frame", desc := "([B)[B" } : Jvm.MethodName) prog_7_method_3_code (2 : Nat) (Option.some (Jvm.ClassFile.FieldType.array Jvm.ClassFile.FieldType.byte))]
set_option maxRecDepth 65536 in
theorem codes_eq : words1.filter isCode = codes1 := rfl
theorem w_codes : ∀ c ∈ words1.filter isCode, c.before args0 about1 = true := by
  rw [codes_eq]
  intro c hc
  simp only [codes1, List.mem_cons, List.not_mem_nil, or_false] at hc
  rcases hc with rfl | rfl
  · exact w_c0
  · exact w_c1
set_option maxRecDepth 65536 in
theorem w_t1 : words1.all (fun c => isCode c || c.before args0 about1) = true := by decide +kernel
theorem w_tables : (allAtoms (Jvm.Cond.code x code maxLocals ret :: tables_1)).before args0 about1 = true := by
  rw [allAtoms_all]
  show words1.all (fun c => c.before args0 about1) = true
  refine all_split ?_ w_codes
  rw [w_t1]
set_option maxRecDepth 65536 in
theorem w_case : (Jvm.Cond.and given_1 narrow_1).before args0 about1 = true := by decide +kernel
theorem w_applies : (headSpec (Jvm.Cond.code x code maxLocals ret :: tables_1) room_1).applies x e0.platform about1 = true :=
  (Spec.applies_iff w_frames).mpr ⟨w_running, w_runnable, w_alone, w_named, w_hears, w_ripe, w_room, w_tables⟩
theorem atStart : AtStart classFile x code maxLocals ret World_1 tables_1 room_1 Calls_1 rest_1 Pre_1 launch0 p0 e0 about1 theMethod args0 below0 :=
  ⟨lists_1, trivial, launch0.admits_env _ _ _, launch0.least_env, fairChoices_fair.cas, fairChoices_fair.clock, w_frames, w_args, w_heap, w_applies, trivial, trivial, w_case⟩
end start1
theorem witness_1 : WitnessClaimed_1 := ⟨start1.p0, start1.e0, start1.about1, start1.theMethod, start1.args0, start1.below0, start1.atStart⟩
end Jvm.Pilot.@@N@@
