import JvmDerived
import JvmDerived.Pilot.@@N@@Statement
import JvmDerived.Pilot.@@N@@Code
set_option linter.unusedVariables false
set_option linter.unusedSimpArgs false
namespace Jvm.Pilot.@@N@@
open Jvm Jvm.ClassFile Sem Op Lib Jvm.Free Jvm.Stand Jvm.LawKit Jvm.RoadKit Bundle Jvm.Pilot.@@N@@.Jvm.D
def own_Go (tb : Tables) (e : Env) (below : List Frame) (P : State → Outcome → Prop) (A : State) : Prop := ∃ s₂ o, Steps tb e below A s₂ ∧ P s₂ o
theorem own_in {tb : Tables} {e : Env} {below : List Frame} {P : State → Outcome → Prop} {A : State} (h : own_Go tb e below P A) : ∃ s₂ o, Steps tb e below A s₂ ∧ P s₂ o := h
theorem own_st {tb : Tables} {e : Env} {below : List Frame} {P : State → Outcome → Prop} {A B : State} (h : ∀ t, Steps tb e below B t → Steps tb e below A t) (k : own_Go tb e below P B) : own_Go tb e below P A := by
  obtain ⟨s₂, o, h1, h2⟩ := k
  exact ⟨s₂, o, h _ h1, h2⟩
theorem own_tr {tb : Tables} {e : Env} {below : List Frame} {P : State → Outcome → Prop} {A B : State} (h : Steps tb e below A B) (k : own_Go tb e below P B) : own_Go tb e below P A := by
  obtain ⟨s₂, o, h1, h2⟩ := k
  exact ⟨s₂, o, h.trans h1, h2⟩
theorem own_out {tb : Tables} {e : Env} {below : List Frame} {P : State → Outcome → Prop} {A B : State} {o : Outcome} (h : Steps tb e below A B) (k : P B o) : own_Go tb e below P A := ⟨B, o, h, k⟩
theorem own_join {ι : Type} {tb : Tables} {e : Env} {below : List Frame} {P : State → Outcome → Prop} {A : State} (B : ι → State) (K : ι → Prop) (hJ : ∀ b, K b → own_Go tb e below P (B b)) (h : (∀ b, K b → own_Go tb e below P (B b)) → own_Go tb e below P A) : own_Go tb e below P A := h hJ
theorem own_cast {tb : Tables} {e : Env} {below : List Frame} {P : State → Outcome → Prop} {A B : State} (q : A = B) (k : own_Go tb e below P B) : own_Go tb e below P A := q ▸ k
section Own
variable {p : Program} {l : Launch} {e : Env} {R : Room} {s : State} {m : MethodId} {args : Array Value} {below : List Frame} {meth : Method} {c : Code} {T : State} {locs : List Loc} {cells slots : Nat}
theorem own_retI (X : Stand p l e R s m args below meth c T locs cells slots) (hx : p.tables.exec = Jvm.exec) {pc : Nat} {Ls : Array Slot} {z : Int32} {rest : List Value} (hret : meth.sig.returnType = some .int) (hd : decode c.code pc = .ok (.ireturn, 1)) {fs : List Frame}
    (hl : ∀ (f : JFrame) (acts : List Action), f.method = m → f.locked = none → f.entered = [] → (doReturn e (T.setTop f) acts (some (.int z))).1 = T.setFrames fs) : Steps p.tables e below (T.setTop (mkF m pc Ls (.int z :: rest))) (T.setFrames fs) := by
  have hm' : T.vm.method? m = some meth := X.method'
  have hn : narrow .int (.int z) = .int z := rfl
  show Steps p.tables e below (T.setTop { method := m, pc := pc, locals := Ls, stack := _ :: rest, locked := none }) _
  jvm_step X.here [X.here.top, hx, hd, hm', hret, hn]
  first | (intro acts; rw [hl _ acts rfl rfl rfl]) | rw [hl _ _ rfl rfl rfl]
  exact Steps.refl _
end Own
abbrev own_b4 (a b c d : Int32) : Prop := a = (13 : Int32) ∧ b = (10 : Int32) ∧ c = (13 : Int32) ∧ d = (10 : Int32)
def own_bl (ln i a b c d : Int32) : Int32 := (if i < ln then (if own_b4 a b c d then (1 : Int32) else (0 : Int32)) else (0 : Int32))
def own_end (ln v0 v1 v2 v3 v4 v5 v6 v7 : Int32) : Int32 := (if (3 : Int32) < ln then (if own_b4 v0 v1 v2 v3 then (4 : Int32) else (if (4 : Int32) < ln then (if own_b4 v1 v2 v3 v4 then (5 : Int32) else (if (5 : Int32) < ln then (if own_b4 v2 v3 v4 v5 then (6 : Int32) else (if (6 : Int32) < ln then (if own_b4 v3 v4 v5 v6 then (7 : Int32) else (if (7 : Int32) < ln then (if own_b4 v4 v5 v6 v7 then (8 : Int32) else (0 : Int32)) else (0 : Int32))) else (0 : Int32))) else (0 : Int32))) else (0 : Int32))) else (0 : Int32))
theorem own_blz (ln i a b c d : Int32) : own_bl ln i a b c d = (0 : Int32) ↔ ¬ (i < ln ∧ own_b4 a b c d) := by
  unfold own_bl
  by_cases h1 : i < ln
  · by_cases h2 : own_b4 a b c d
    · rw [if_pos h1, if_pos h2]; exact ⟨fun q => absurd q (by decide), fun q => absurd ⟨h1, h2⟩ q⟩
    · rw [if_pos h1, if_neg h2]; exact ⟨fun _ q => h2 q.2, fun _ => rfl⟩
  · rw [if_neg h1]; exact ⟨fun _ q => h1 q.1, fun _ => rfl⟩
theorem d1_0 : decode method_2_code 0 = .ok (.iload_n 0, 1) := by decide +kernel
theorem d1_1 : decode method_2_code 1 = .ok (.iconst 2, 1) := by decide +kernel
theorem d1_2 : decode method_2_code 2 = .ok (.iload_n 3, 1) := by decide +kernel
theorem d1_3 : decode method_2_code 3 = .ok (.imul, 1) := by decide +kernel
theorem d1_4 : decode method_2_code 4 = .ok (.iushr, 1) := by decide +kernel
theorem d1_5 : decode method_2_code 5 = .ok (.iconst 3, 1) := by decide +kernel
theorem d1_6 : decode method_2_code 6 = .ok (.iand, 1) := by decide +kernel
theorem d1_7 : decode method_2_code 7 = .ok (.istore 4, 2) := by decide +kernel
theorem d1_9 : decode method_2_code 9 = .ok (.iload 4, 2) := by decide +kernel
theorem d1_11 : decode method_2_code 11 = .ok (.ifCond .ne 6, 3) := by decide +kernel
theorem d1_14 : decode method_2_code 14 = .ok (.bipush 13, 2) := by decide +kernel
theorem d1_16 : decode method_2_code 16 = .ok (.ireturn, 1) := by decide +kernel
theorem d1_17 : decode method_2_code 17 = .ok (.iload 4, 2) := by decide +kernel
theorem d1_19 : decode method_2_code 19 = .ok (.iconst 1, 1) := by decide +kernel
theorem d1_20 : decode method_2_code 20 = .ok (.if_icmp .ne 6, 3) := by decide +kernel
theorem d1_23 : decode method_2_code 23 = .ok (.bipush 10, 2) := by decide +kernel
theorem d1_25 : decode method_2_code 25 = .ok (.ireturn, 1) := by decide +kernel
theorem d1_26 : decode method_2_code 26 = .ok (.lload_n 1, 1) := by decide +kernel
theorem d1_27 : decode method_2_code 27 = .ok (.bipush 8, 2) := by decide +kernel
theorem d1_29 : decode method_2_code 29 = .ok (.iload_n 3, 1) := by decide +kernel
theorem d1_30 : decode method_2_code 30 = .ok (.imul, 1) := by decide +kernel
theorem d1_31 : decode method_2_code 31 = .ok (.lushr, 1) := by decide +kernel
theorem d1_32 : decode method_2_code 32 = .ok (.l2i, 1) := by decide +kernel
theorem d1_33 : decode method_2_code 33 = .ok (.i2b, 1) := by decide +kernel
theorem d1_34 : decode method_2_code 34 = .ok (.ireturn, 1) := by decide +kernel
theorem own_pd0 : parseMethodDescriptor "(IJI)B" = some ⟨[.int, .long, .int], some .byte⟩ := by decide +kernel
theorem own_pn0 : plainName "HttpHeadEndPinLaw" = true := by first | (simp [plainName, overriddenIn]; done) | decide +kernel
def Q1 (Z : State) (u0 : Int32) (u1 : Int64) (u2 : Int32) (h0 : Heap) (n0 : Nat) (v : Option Value) (h : Heap) (L : List Loc) : Prop := ∃ r : Int32, v = some (.int r) ∧ Fr n0 L ∧ h = h0
theorem ef_1 (m : MethodId) (x0 : Int32) (x1 : Int64) (x2 : Int32) : entryFrame m #[(.int x0), (.long x1), (.int x2)] 5 = mkF m 0 #[.val (.int x0), .val (.long x1), .second, .val (.int x2), .unset] [] := by first | (simp [entryFrame, mkF, argsToLocals, Value.category]; done) | rfl
set_option maxRecDepth 65536 in
set_option maxHeartbeats 40000000 in
theorem rm1 (l : Launch) (Z : State) (a0 : Array Value) (hw : ∀ d ∈ tables_1, d.before a0 Z = true) (ws : List Jvm.Cond) (u0 : Int32) (u1 : Int64) (u2 : Int32) (h0 : Heap) (n0 : Nat) (Z0 : n0 ≤ h0.size)  :
    MetFree l (⟨"HttpHeadEndPinLaw", "pick", "(IJI)B"⟩ : MethodName) (head1 (Jvm.Cond.code (⟨"HttpHeadEndPinLaw", "pick", "(IJI)B"⟩ : MethodName) method_2_code 5 (some .byte) :: ws) ({ frames := 0, cells := 0, slots := 0, locals := 0 } : Room)) (fun a U => a = #[(.int u0), (.long u1), (.int u2)] ∧ Z.Warmed39 U.vm ∧ U.heap = h0) (fun _ _ _ _ _ => True) (fun _ U o U' => ∃ v L, o = .returned v ∧ Q1 Z u0 u1 u2 h0 n0 v U'.heap L ∧ FrameEnd U o U' L ({ frames := 0, cells := 0, slots := 0, locals := 0 } : Room).cells ({ frames := 0, cells := 0, slots := 0, locals := 0 } : Room).slots) := by
  refine MetFree.of_bodySF (plainFor_of_name own_pn0) hisR ?_
  intro p e s m args below meth c s₁ Bd hml0 hP hK
  obtain ⟨rfl, hZ, hh⟩ := hP
  have hx := Bd.exec
  have hby := Bd.bytes
  have hml : c.maxLocals = 5 := hml0
  have hown : s.vm.findClass "HttpHeadEndPinLaw" = some m.cls := findClass_of_methodNamed Bd.named
  have hnm := (name_of_methodNamed Bd.named Bd.method).1
  have X0 : Stand p l e ({ frames := 0, cells := 0, slots := 0, locals := 0 } : Room) s m #[(.int u0), (.long u1), (.int u2)] below meth c s₁ [] 0 0 := Stand.of_body Bd
  have e0 : s₁.heap = h0 := by rw [← hh, Bd.state]; rfl
  have N0 := Fr.nil n0
  refine own_in ?_
  refine own_st (fun _ k => castTop (ef_1 m u0 u1 u2) k) ?_
  have K0 : Keep h0 h0 [] := Keep.refl h0 []
  show own_Go _ _ _ _ (s₁.setTop (mkF m 0 #[.val (.int u0), .val (.long u1), .second, .val (.int u2), .unset] []))
  refine own_st (fun _ k => XS.iloadN X0.here hx rfl (hb hby d1_0) rfl k) ?_
  show own_Go _ _ _ _ (s₁.setTop (mkF m 1 #[.val (.int u0), .val (.long u1), .second, .val (.int u2), .unset] [(.int u0)]))
  refine own_st (fun _ k => XS.iconst X0.here hx rfl (hb hby d1_1) k) ?_
  show own_Go _ _ _ _ (s₁.setTop (mkF m 2 #[.val (.int u0), .val (.long u1), .second, .val (.int u2), .unset] [(.int (2 : Int32)), (.int u0)]))
  refine own_st (fun _ k => XS.iloadN X0.here hx rfl (hb hby d1_2) rfl k) ?_
  show own_Go _ _ _ _ (s₁.setTop (mkF m 3 #[.val (.int u0), .val (.long u1), .second, .val (.int u2), .unset] [(.int u2), (.int (2 : Int32)), (.int u0)]))
  refine own_st (fun _ k => XS.imul X0.here hx rfl (hb hby d1_3) rfl k) ?_
  show own_Go _ _ _ _ (s₁.setTop (mkF m 4 #[.val (.int u0), .val (.long u1), .second, .val (.int u2), .unset] [(.int ((2 : Int32) * u2)), (.int u0)]))
  refine own_st (fun _ k => XS.iushr X0.here hx rfl (hb hby d1_4) rfl k) ?_
  show own_Go _ _ _ _ (s₁.setTop (mkF m 5 #[.val (.int u0), .val (.long u1), .second, .val (.int u2), .unset] [(.int ((u0.toUInt32 >>> (((2 : Int32) * u2) &&& 31).toUInt32).toInt32))]))
  refine own_st (fun _ k => XS.iconst X0.here hx rfl (hb hby d1_5) k) ?_
  show own_Go _ _ _ _ (s₁.setTop (mkF m 6 #[.val (.int u0), .val (.long u1), .second, .val (.int u2), .unset] [(.int (3 : Int32)), (.int ((u0.toUInt32 >>> (((2 : Int32) * u2) &&& 31).toUInt32).toInt32))]))
  refine own_st (fun _ k => XS.iand X0.here hx rfl (hb hby d1_6) rfl k) ?_
  show own_Go _ _ _ _ (s₁.setTop (mkF m 7 #[.val (.int u0), .val (.long u1), .second, .val (.int u2), .unset] [(.int (((u0.toUInt32 >>> (((2 : Int32) * u2) &&& 31).toUInt32).toInt32) &&& (3 : Int32)))]))
  refine own_st (fun _ k => XS.istore X0.here hx rfl (hb hby d1_7) rfl (l' := #[.val (.int u0), .val (.long u1), .second, .val (.int u2), .val (.int (((u0.toUInt32 >>> (((2 : Int32) * u2) &&& 31).toUInt32).toInt32) &&& (3 : Int32)))]) rfl k) ?_
  show own_Go _ _ _ _ (s₁.setTop (mkF m 9 #[.val (.int u0), .val (.long u1), .second, .val (.int u2), .val (.int (((u0.toUInt32 >>> (((2 : Int32) * u2) &&& 31).toUInt32).toInt32) &&& (3 : Int32)))] []))
  refine own_st (fun _ k => XS.iload X0.here hx rfl (hb hby d1_9) rfl k) ?_
  show own_Go _ _ _ _ (s₁.setTop (mkF m 11 #[.val (.int u0), .val (.long u1), .second, .val (.int u2), .val (.int (((u0.toUInt32 >>> (((2 : Int32) * u2) &&& 31).toUInt32).toInt32) &&& (3 : Int32)))] [(.int (((u0.toUInt32 >>> (((2 : Int32) * u2) &&& 31).toUInt32).toInt32) &&& (3 : Int32)))]))
  by_cases hc1 : (((u0.toUInt32 >>> (((2 : Int32) * u2) &&& 31).toUInt32).toInt32) &&& (3 : Int32)) = (0 : Int32)
  · skip
    refine own_st (fun _ k => XS.ifNo X0.here hx rfl (hb hby d1_11) rfl ((if0 _ _).trans (teq hc1).2) k) ?_
    show own_Go _ _ _ _ (s₁.setTop (mkF m 14 #[.val (.int u0), .val (.long u1), .second, .val (.int u2), .val (.int (((u0.toUInt32 >>> (((2 : Int32) * u2) &&& 31).toUInt32).toInt32) &&& (3 : Int32)))] []))
    refine own_st (fun _ k => XS.bipush X0.here hx rfl (hb hby d1_14) k) ?_
    show own_Go _ _ _ _ (s₁.setTop (mkF m 16 #[.val (.int u0), .val (.long u1), .second, .val (.int u2), .val (.int (((u0.toUInt32 >>> (((2 : Int32) * u2) &&& 31).toUInt32).toInt32) &&& (3 : Int32)))] [(.int (13 : Int32))]))
    obtain ⟨fs, hr, hrun, hended, hW, hsame⟩ := X0.leave (v := some (.int (13 : Int32))) (fun h => by rw [Bd.returns] at h; cases h)
    refine own_out (retN X0 hx (t := .byte) Bd.returns (by simp) (hb hby d1_16) hr) ⟨hrun, hended, _, _, rfl, ?_, ⟨_, rfl⟩, hW, hsame.mono (by decide) (by decide)⟩
    show Q1 Z u0 u1 u2 h0 n0 _ s₁.heap _
    exact ⟨_, rfl, N0, e0⟩
  · skip
    refine own_st (fun _ k => XS.ifYes X0.here hx rfl (pc0 := 11) (pc' := 17) rfl (hb hby d1_11) rfl ((if0 _ _).trans (feq hc1).2) (by decide) (by decide) k) ?_
    show own_Go _ _ _ _ (s₁.setTop (mkF m 17 #[.val (.int u0), .val (.long u1), .second, .val (.int u2), .val (.int (((u0.toUInt32 >>> (((2 : Int32) * u2) &&& 31).toUInt32).toInt32) &&& (3 : Int32)))] []))
    refine own_st (fun _ k => XS.iload X0.here hx rfl (hb hby d1_17) rfl k) ?_
    show own_Go _ _ _ _ (s₁.setTop (mkF m 19 #[.val (.int u0), .val (.long u1), .second, .val (.int u2), .val (.int (((u0.toUInt32 >>> (((2 : Int32) * u2) &&& 31).toUInt32).toInt32) &&& (3 : Int32)))] [(.int (((u0.toUInt32 >>> (((2 : Int32) * u2) &&& 31).toUInt32).toInt32) &&& (3 : Int32)))]))
    refine own_st (fun _ k => XS.iconst X0.here hx rfl (hb hby d1_19) k) ?_
    show own_Go _ _ _ _ (s₁.setTop (mkF m 20 #[.val (.int u0), .val (.long u1), .second, .val (.int u2), .val (.int (((u0.toUInt32 >>> (((2 : Int32) * u2) &&& 31).toUInt32).toInt32) &&& (3 : Int32)))] [(.int (1 : Int32)), (.int (((u0.toUInt32 >>> (((2 : Int32) * u2) &&& 31).toUInt32).toInt32) &&& (3 : Int32)))]))
    by_cases hc2 : (((u0.toUInt32 >>> (((2 : Int32) * u2) &&& 31).toUInt32).toInt32) &&& (3 : Int32)) = (1 : Int32)
    · skip
      refine own_st (fun _ k => XS.icmpNo X0.here hx rfl (hb hby d1_20) rfl (teq hc2).2 k) ?_
      show own_Go _ _ _ _ (s₁.setTop (mkF m 23 #[.val (.int u0), .val (.long u1), .second, .val (.int u2), .val (.int (((u0.toUInt32 >>> (((2 : Int32) * u2) &&& 31).toUInt32).toInt32) &&& (3 : Int32)))] []))
      refine own_st (fun _ k => XS.bipush X0.here hx rfl (hb hby d1_23) k) ?_
      show own_Go _ _ _ _ (s₁.setTop (mkF m 25 #[.val (.int u0), .val (.long u1), .second, .val (.int u2), .val (.int (((u0.toUInt32 >>> (((2 : Int32) * u2) &&& 31).toUInt32).toInt32) &&& (3 : Int32)))] [(.int (10 : Int32))]))
      obtain ⟨fs, hr, hrun, hended, hW, hsame⟩ := X0.leave (v := some (.int (10 : Int32))) (fun h => by rw [Bd.returns] at h; cases h)
      refine own_out (retN X0 hx (t := .byte) Bd.returns (by simp) (hb hby d1_25) hr) ⟨hrun, hended, _, _, rfl, ?_, ⟨_, rfl⟩, hW, hsame.mono (by decide) (by decide)⟩
      show Q1 Z u0 u1 u2 h0 n0 _ s₁.heap _
      exact ⟨_, rfl, N0, e0⟩
    · skip
      refine own_st (fun _ k => XS.icmpYes X0.here hx rfl (pc0 := 20) (pc' := 26) rfl (hb hby d1_20) rfl (feq hc2).2 (by decide) (by decide) k) ?_
      show own_Go _ _ _ _ (s₁.setTop (mkF m 26 #[.val (.int u0), .val (.long u1), .second, .val (.int u2), .val (.int (((u0.toUInt32 >>> (((2 : Int32) * u2) &&& 31).toUInt32).toInt32) &&& (3 : Int32)))] []))
      refine own_st (fun _ k => XS.lloadN X0.here hx rfl (hb hby d1_26) rfl k) ?_
      show own_Go _ _ _ _ (s₁.setTop (mkF m 27 #[.val (.int u0), .val (.long u1), .second, .val (.int u2), .val (.int (((u0.toUInt32 >>> (((2 : Int32) * u2) &&& 31).toUInt32).toInt32) &&& (3 : Int32)))] [(.long u1)]))
      refine own_st (fun _ k => XS.bipush X0.here hx rfl (hb hby d1_27) k) ?_
      show own_Go _ _ _ _ (s₁.setTop (mkF m 29 #[.val (.int u0), .val (.long u1), .second, .val (.int u2), .val (.int (((u0.toUInt32 >>> (((2 : Int32) * u2) &&& 31).toUInt32).toInt32) &&& (3 : Int32)))] [(.int (8 : Int32)), (.long u1)]))
      refine own_st (fun _ k => XS.iloadN X0.here hx rfl (hb hby d1_29) rfl k) ?_
      show own_Go _ _ _ _ (s₁.setTop (mkF m 30 #[.val (.int u0), .val (.long u1), .second, .val (.int u2), .val (.int (((u0.toUInt32 >>> (((2 : Int32) * u2) &&& 31).toUInt32).toInt32) &&& (3 : Int32)))] [(.int u2), (.int (8 : Int32)), (.long u1)]))
      refine own_st (fun _ k => XS.imul X0.here hx rfl (hb hby d1_30) rfl k) ?_
      show own_Go _ _ _ _ (s₁.setTop (mkF m 31 #[.val (.int u0), .val (.long u1), .second, .val (.int u2), .val (.int (((u0.toUInt32 >>> (((2 : Int32) * u2) &&& 31).toUInt32).toInt32) &&& (3 : Int32)))] [(.int ((8 : Int32) * u2)), (.long u1)]))
      refine own_st (fun _ k => XS.lushr X0.here hx rfl (hb hby d1_31) rfl k) ?_
      show own_Go _ _ _ _ (s₁.setTop (mkF m 32 #[.val (.int u0), .val (.long u1), .second, .val (.int u2), .val (.int (((u0.toUInt32 >>> (((2 : Int32) * u2) &&& 31).toUInt32).toInt32) &&& (3 : Int32)))] [(.long ((u1.toUInt64 >>> (((8 : Int32) * u2) &&& 0x3f).toInt64.toUInt64).toInt64))]))
      refine own_st (fun _ k => XS.l2i X0.here hx rfl (hb hby d1_32) rfl k) ?_
      show own_Go _ _ _ _ (s₁.setTop (mkF m 33 #[.val (.int u0), .val (.long u1), .second, .val (.int u2), .val (.int (((u0.toUInt32 >>> (((2 : Int32) * u2) &&& 31).toUInt32).toInt32) &&& (3 : Int32)))] [(.int (((u1.toUInt64 >>> (((8 : Int32) * u2) &&& 0x3f).toInt64.toUInt64).toInt64).toInt32))]))
      refine own_st (fun _ k => XS.i2b X0.here hx rfl (hb hby d1_33) rfl k) ?_
      show own_Go _ _ _ _ (s₁.setTop (mkF m 34 #[.val (.int u0), .val (.long u1), .second, .val (.int u2), .val (.int (((u0.toUInt32 >>> (((2 : Int32) * u2) &&& 31).toUInt32).toInt32) &&& (3 : Int32)))] [(.int ((((u1.toUInt64 >>> (((8 : Int32) * u2) &&& 0x3f).toInt64.toUInt64).toInt64).toInt32).toInt8.toInt32))]))
      obtain ⟨fs, hr, hrun, hended, hW, hsame⟩ := X0.leave (v := some (.int (nar .byte ((((u1.toUInt64 >>> (((8 : Int32) * u2) &&& 0x3f).toInt64.toUInt64).toInt64).toInt32).toInt8.toInt32)))) (fun h => by rw [Bd.returns] at h; cases h)
      refine own_out (retN X0 hx (t := .byte) Bd.returns (by simp) (hb hby d1_34) hr) ⟨hrun, hended, _, _, rfl, ?_, ⟨_, rfl⟩, hW, hsame.mono (by decide) (by decide)⟩
      show Q1 Z u0 u1 u2 h0 n0 _ s₁.heap _
      exact ⟨_, rfl, N0, e0⟩
theorem d2_0 : decode method_3_code 0 = .ok (.iload_n 2, 1) := by decide +kernel
theorem d2_1 : decode method_3_code 1 = .ok (.iload_n 1, 1) := by decide +kernel
theorem d2_2 : decode method_3_code 2 = .ok (.if_icmp .lt 5, 3) := by decide +kernel
theorem d2_5 : decode method_3_code 5 = .ok (.iconst 0, 1) := by decide +kernel
theorem d2_6 : decode method_3_code 6 = .ok (.ireturn, 1) := by decide +kernel
theorem d2_7 : decode method_3_code 7 = .ok (.aload_n 0, 1) := by decide +kernel
theorem d2_8 : decode method_3_code 8 = .ok (.iload_n 2, 1) := by decide +kernel
theorem d2_9 : decode method_3_code 9 = .ok (.iconst 3, 1) := by decide +kernel
theorem d2_10 : decode method_3_code 10 = .ok (.isub, 1) := by decide +kernel
theorem d2_11 : decode method_3_code 11 = .ok (.baload, 1) := by decide +kernel
theorem d2_12 : decode method_3_code 12 = .ok (.bipush 13, 2) := by decide +kernel
theorem d2_14 : decode method_3_code 14 = .ok (.if_icmp .ne 35, 3) := by decide +kernel
theorem d2_17 : decode method_3_code 17 = .ok (.aload_n 0, 1) := by decide +kernel
theorem d2_18 : decode method_3_code 18 = .ok (.iload_n 2, 1) := by decide +kernel
theorem d2_19 : decode method_3_code 19 = .ok (.iconst 2, 1) := by decide +kernel
theorem d2_20 : decode method_3_code 20 = .ok (.isub, 1) := by decide +kernel
theorem d2_21 : decode method_3_code 21 = .ok (.baload, 1) := by decide +kernel
theorem d2_22 : decode method_3_code 22 = .ok (.bipush 10, 2) := by decide +kernel
theorem d2_24 : decode method_3_code 24 = .ok (.if_icmp .ne 25, 3) := by decide +kernel
theorem d2_27 : decode method_3_code 27 = .ok (.aload_n 0, 1) := by decide +kernel
theorem d2_28 : decode method_3_code 28 = .ok (.iload_n 2, 1) := by decide +kernel
theorem d2_29 : decode method_3_code 29 = .ok (.iconst 1, 1) := by decide +kernel
theorem d2_30 : decode method_3_code 30 = .ok (.isub, 1) := by decide +kernel
theorem d2_31 : decode method_3_code 31 = .ok (.baload, 1) := by decide +kernel
theorem d2_32 : decode method_3_code 32 = .ok (.bipush 13, 2) := by decide +kernel
theorem d2_34 : decode method_3_code 34 = .ok (.if_icmp .ne 15, 3) := by decide +kernel
theorem d2_37 : decode method_3_code 37 = .ok (.aload_n 0, 1) := by decide +kernel
theorem d2_38 : decode method_3_code 38 = .ok (.iload_n 2, 1) := by decide +kernel
theorem d2_39 : decode method_3_code 39 = .ok (.baload, 1) := by decide +kernel
theorem d2_40 : decode method_3_code 40 = .ok (.bipush 10, 2) := by decide +kernel
theorem d2_42 : decode method_3_code 42 = .ok (.if_icmp .ne 7, 3) := by decide +kernel
theorem d2_45 : decode method_3_code 45 = .ok (.iconst 1, 1) := by decide +kernel
theorem d2_46 : decode method_3_code 46 = .ok (.goto 4, 3) := by decide +kernel
theorem d2_49 : decode method_3_code 49 = .ok (.iconst 0, 1) := by decide +kernel
theorem d2_50 : decode method_3_code 50 = .ok (.ireturn, 1) := by decide +kernel
theorem own_pd1 : parseMethodDescriptor "([BII)Z" = some ⟨[(.array .byte), .int, .int], some .boolean⟩ := by decide +kernel
def Q2_3 (Z : State) (ar : Addr) (kk : ClassId) (ln : Int32) (v0 : Int32) (v1 : Int32) (v2 : Int32) (v3 : Int32) (v4 : Int32) (v5 : Int32) (v6 : Int32) (v7 : Int32) (h0 : Heap) (n0 : Nat) (v : Option Value) (h : Heap) (L : List Loc) : Prop := v = some (.int (own_bl ln (3 : Int32) v0 v1 v2 v3)) ∧ Fr n0 L ∧ h = h0
theorem ef_2_3 (m : MethodId) (x0 : Addr) (x1 : Int32) (x2 : Int32) : entryFrame m #[(.ref x0), (.int x1), (.int x2)] 3 = mkF m 0 #[.val (.ref x0), .val (.int x1), .val (.int x2)] [] := by first | (simp [entryFrame, mkF, argsToLocals, Value.category]; done) | rfl
set_option maxRecDepth 65536 in
set_option maxHeartbeats 40000000 in
theorem rm2_3 (l : Launch) (Z : State) (a0 : Array Value) (hw : ∀ d ∈ tables_1, d.before a0 Z = true) (ws : List Jvm.Cond) (ar : Addr) (kk : ClassId) (ln : Int32) (v0 : Int32) (v1 : Int32) (v2 : Int32) (v3 : Int32) (v4 : Int32) (v5 : Int32) (v6 : Int32) (v7 : Int32) (h0 : Heap) (n0 : Nat) (Z0 : n0 ≤ h0.size) (V_ar : Arv Z h0 ar kk .byte (8 : Int32) [.int v0, .int v1, .int v2, .int v3, .int v4, .int v5, .int v6, .int v7] (.int (0 : Int32))) :
    MetFree l (⟨"HttpHeadEndPinLaw", "blankLineEndsAt", "([BII)Z"⟩ : MethodName) (head1 (Jvm.Cond.code (⟨"HttpHeadEndPinLaw", "blankLineEndsAt", "([BII)Z"⟩ : MethodName) method_3_code 3 (some .boolean) :: ws) ({ frames := 0, cells := 0, slots := 0, locals := 0 } : Room)) (fun a U => a = #[(.ref ar), (.int ln), (.int (3 : Int32))] ∧ Z.Warmed39 U.vm ∧ U.heap = h0) (fun _ _ _ _ _ => True) (fun _ U o U' => ∃ v L, o = .returned v ∧ Q2_3 Z ar kk ln v0 v1 v2 v3 v4 v5 v6 v7 h0 n0 v U'.heap L ∧ FrameEnd U o U' L ({ frames := 0, cells := 0, slots := 0, locals := 0 } : Room).cells ({ frames := 0, cells := 0, slots := 0, locals := 0 } : Room).slots) := by
  refine MetFree.of_bodySF (plainFor_of_name own_pn0) hisR ?_
  intro p e s m args below meth c s₁ Bd hml0 hP hK
  obtain ⟨rfl, hZ, hh⟩ := hP
  have hx := Bd.exec
  have hby := Bd.bytes
  have hml : c.maxLocals = 3 := hml0
  have hown : s.vm.findClass "HttpHeadEndPinLaw" = some m.cls := findClass_of_methodNamed Bd.named
  have hnm := (name_of_methodNamed Bd.named Bd.method).1
  have X0 : Stand p l e ({ frames := 0, cells := 0, slots := 0, locals := 0 } : Room) s m #[(.ref ar), (.int ln), (.int (3 : Int32))] below meth c s₁ [] 0 0 := Stand.of_body Bd
  have e0 : s₁.heap = h0 := by rw [← hh, Bd.state]; rfl
  have N0 := Fr.nil n0
  refine own_in ?_
  refine own_st (fun _ k => castTop (ef_2_3 m ar ln (3 : Int32)) k) ?_
  have K0 : Keep h0 h0 [] := Keep.refl h0 []
  show own_Go _ _ _ _ (s₁.setTop (mkF m 0 #[.val (.ref ar), .val (.int ln), .val (.int (3 : Int32))] []))
  refine own_st (fun _ k => XS.iloadN X0.here hx rfl (hb hby d2_0) rfl k) ?_
  show own_Go _ _ _ _ (s₁.setTop (mkF m 1 #[.val (.ref ar), .val (.int ln), .val (.int (3 : Int32))] [(.int (3 : Int32))]))
  refine own_st (fun _ k => XS.iloadN X0.here hx rfl (hb hby d2_1) rfl k) ?_
  show own_Go _ _ _ _ (s₁.setTop (mkF m 2 #[.val (.ref ar), .val (.int ln), .val (.int (3 : Int32))] [(.int ln), (.int (3 : Int32))]))
  by_cases hc3 : (3 : Int32) < ln
  · skip
    refine own_st (fun _ k => XS.icmpYes X0.here hx rfl (pc0 := 2) (pc' := 7) rfl (hb hby d2_2) rfl (tlt hc3).1 (by decide) (by decide) k) ?_
    show own_Go _ _ _ _ (s₁.setTop (mkF m 7 #[.val (.ref ar), .val (.int ln), .val (.int (3 : Int32))] []))
    refine own_st (fun _ k => XS.aloadN X0.here hx rfl (hb hby d2_7) rfl rfl k) ?_
    show own_Go _ _ _ _ (s₁.setTop (mkF m 8 #[.val (.ref ar), .val (.int ln), .val (.int (3 : Int32))] [(.ref ar)]))
    refine own_st (fun _ k => XS.iloadN X0.here hx rfl (hb hby d2_8) rfl k) ?_
    show own_Go _ _ _ _ (s₁.setTop (mkF m 9 #[.val (.ref ar), .val (.int ln), .val (.int (3 : Int32))] [(.int (3 : Int32)), (.ref ar)]))
    refine own_st (fun _ k => XS.iconst X0.here hx rfl (hb hby d2_9) k) ?_
    show own_Go _ _ _ _ (s₁.setTop (mkF m 10 #[.val (.ref ar), .val (.int ln), .val (.int (3 : Int32))] [(.int (3 : Int32)), (.int (3 : Int32)), (.ref ar)]))
    refine own_st (fun _ k => XS.isub X0.here hx rfl (hb hby d2_10) rfl k) ?_
    show own_Go _ _ _ _ (s₁.setTop (mkF m 11 #[.val (.ref ar), .val (.int ln), .val (.int (3 : Int32))] [(.int (0 : Int32)), (.ref ar)]))
    obtain ⟨cl4, Ar4, -, Sz4, Nn4, Hs4, -⟩ := id V_ar
    have hin4 : ¬ ((0 : Int32) < 0 ∨ cl4.slots.size ≤ ((0 : Int32)).toNatClampNeg) := inb_of Sz4 ⟨(by decide : ¬ ((0 : Int32) < (0 : Int32))), (by decide : (0 : Int32) < (8 : Int32))⟩
    have hat4 : cl4.slots[((0 : Int32)).toNatClampNeg]? = some (.int v0) := Hs4.at hin4 rfl
    refine own_st (X0.baloadBytes hx (j := (0 : Int32)) (v := (.int v0)) (by rw [e0]; exact Ar4.1) (State.isArrayOf_alike hZ.alike Ar4.2.1) Ar4.2.2 hin4 hat4 (g := (mkF m 11 #[.val (.ref ar), .val (.int ln), .val (.int (3 : Int32))] [(.int (0 : Int32)), (.ref ar)])) rfl rfl (hb hby d2_11)) ?_
    show own_Go _ _ _ _ (s₁.setTop (mkF m 12 #[.val (.ref ar), .val (.int ln), .val (.int (3 : Int32))] [(.int v0)]))
    refine own_st (fun _ k => XS.bipush X0.here hx rfl (hb hby d2_12) k) ?_
    show own_Go _ _ _ _ (s₁.setTop (mkF m 14 #[.val (.ref ar), .val (.int ln), .val (.int (3 : Int32))] [(.int (13 : Int32)), (.int v0)]))
    by_cases hc5 : v0 = (13 : Int32)
    · skip
      refine own_st (fun _ k => XS.icmpNo X0.here hx rfl (hb hby d2_14) rfl (teq hc5).2 k) ?_
      show own_Go _ _ _ _ (s₁.setTop (mkF m 17 #[.val (.ref ar), .val (.int ln), .val (.int (3 : Int32))] []))
      refine own_st (fun _ k => XS.aloadN X0.here hx rfl (hb hby d2_17) rfl rfl k) ?_
      show own_Go _ _ _ _ (s₁.setTop (mkF m 18 #[.val (.ref ar), .val (.int ln), .val (.int (3 : Int32))] [(.ref ar)]))
      refine own_st (fun _ k => XS.iloadN X0.here hx rfl (hb hby d2_18) rfl k) ?_
      show own_Go _ _ _ _ (s₁.setTop (mkF m 19 #[.val (.ref ar), .val (.int ln), .val (.int (3 : Int32))] [(.int (3 : Int32)), (.ref ar)]))
      refine own_st (fun _ k => XS.iconst X0.here hx rfl (hb hby d2_19) k) ?_
      show own_Go _ _ _ _ (s₁.setTop (mkF m 20 #[.val (.ref ar), .val (.int ln), .val (.int (3 : Int32))] [(.int (2 : Int32)), (.int (3 : Int32)), (.ref ar)]))
      refine own_st (fun _ k => XS.isub X0.here hx rfl (hb hby d2_20) rfl k) ?_
      show own_Go _ _ _ _ (s₁.setTop (mkF m 21 #[.val (.ref ar), .val (.int ln), .val (.int (3 : Int32))] [(.int (1 : Int32)), (.ref ar)]))
      obtain ⟨cl6, Ar6, -, Sz6, Nn6, Hs6, -⟩ := id V_ar
      have hin6 : ¬ ((1 : Int32) < 0 ∨ cl6.slots.size ≤ ((1 : Int32)).toNatClampNeg) := inb_of Sz6 ⟨(by decide : ¬ ((1 : Int32) < (0 : Int32))), (by decide : (1 : Int32) < (8 : Int32))⟩
      have hat6 : cl6.slots[((1 : Int32)).toNatClampNeg]? = some (.int v1) := Hs6.at hin6 rfl
      refine own_st (X0.baloadBytes hx (j := (1 : Int32)) (v := (.int v1)) (by rw [e0]; exact Ar6.1) (State.isArrayOf_alike hZ.alike Ar6.2.1) Ar6.2.2 hin6 hat6 (g := (mkF m 21 #[.val (.ref ar), .val (.int ln), .val (.int (3 : Int32))] [(.int (1 : Int32)), (.ref ar)])) rfl rfl (hb hby d2_21)) ?_
      show own_Go _ _ _ _ (s₁.setTop (mkF m 22 #[.val (.ref ar), .val (.int ln), .val (.int (3 : Int32))] [(.int v1)]))
      refine own_st (fun _ k => XS.bipush X0.here hx rfl (hb hby d2_22) k) ?_
      show own_Go _ _ _ _ (s₁.setTop (mkF m 24 #[.val (.ref ar), .val (.int ln), .val (.int (3 : Int32))] [(.int (10 : Int32)), (.int v1)]))
      by_cases hc7 : v1 = (10 : Int32)
      · skip
        refine own_st (fun _ k => XS.icmpNo X0.here hx rfl (hb hby d2_24) rfl (teq hc7).2 k) ?_
        show own_Go _ _ _ _ (s₁.setTop (mkF m 27 #[.val (.ref ar), .val (.int ln), .val (.int (3 : Int32))] []))
        refine own_st (fun _ k => XS.aloadN X0.here hx rfl (hb hby d2_27) rfl rfl k) ?_
        show own_Go _ _ _ _ (s₁.setTop (mkF m 28 #[.val (.ref ar), .val (.int ln), .val (.int (3 : Int32))] [(.ref ar)]))
        refine own_st (fun _ k => XS.iloadN X0.here hx rfl (hb hby d2_28) rfl k) ?_
        show own_Go _ _ _ _ (s₁.setTop (mkF m 29 #[.val (.ref ar), .val (.int ln), .val (.int (3 : Int32))] [(.int (3 : Int32)), (.ref ar)]))
        refine own_st (fun _ k => XS.iconst X0.here hx rfl (hb hby d2_29) k) ?_
        show own_Go _ _ _ _ (s₁.setTop (mkF m 30 #[.val (.ref ar), .val (.int ln), .val (.int (3 : Int32))] [(.int (1 : Int32)), (.int (3 : Int32)), (.ref ar)]))
        refine own_st (fun _ k => XS.isub X0.here hx rfl (hb hby d2_30) rfl k) ?_
        show own_Go _ _ _ _ (s₁.setTop (mkF m 31 #[.val (.ref ar), .val (.int ln), .val (.int (3 : Int32))] [(.int (2 : Int32)), (.ref ar)]))
        obtain ⟨cl8, Ar8, -, Sz8, Nn8, Hs8, -⟩ := id V_ar
        have hin8 : ¬ ((2 : Int32) < 0 ∨ cl8.slots.size ≤ ((2 : Int32)).toNatClampNeg) := inb_of Sz8 ⟨(by decide : ¬ ((2 : Int32) < (0 : Int32))), (by decide : (2 : Int32) < (8 : Int32))⟩
        have hat8 : cl8.slots[((2 : Int32)).toNatClampNeg]? = some (.int v2) := Hs8.at hin8 rfl
        refine own_st (X0.baloadBytes hx (j := (2 : Int32)) (v := (.int v2)) (by rw [e0]; exact Ar8.1) (State.isArrayOf_alike hZ.alike Ar8.2.1) Ar8.2.2 hin8 hat8 (g := (mkF m 31 #[.val (.ref ar), .val (.int ln), .val (.int (3 : Int32))] [(.int (2 : Int32)), (.ref ar)])) rfl rfl (hb hby d2_31)) ?_
        show own_Go _ _ _ _ (s₁.setTop (mkF m 32 #[.val (.ref ar), .val (.int ln), .val (.int (3 : Int32))] [(.int v2)]))
        refine own_st (fun _ k => XS.bipush X0.here hx rfl (hb hby d2_32) k) ?_
        show own_Go _ _ _ _ (s₁.setTop (mkF m 34 #[.val (.ref ar), .val (.int ln), .val (.int (3 : Int32))] [(.int (13 : Int32)), (.int v2)]))
        by_cases hc9 : v2 = (13 : Int32)
        · skip
          refine own_st (fun _ k => XS.icmpNo X0.here hx rfl (hb hby d2_34) rfl (teq hc9).2 k) ?_
          show own_Go _ _ _ _ (s₁.setTop (mkF m 37 #[.val (.ref ar), .val (.int ln), .val (.int (3 : Int32))] []))
          refine own_st (fun _ k => XS.aloadN X0.here hx rfl (hb hby d2_37) rfl rfl k) ?_
          show own_Go _ _ _ _ (s₁.setTop (mkF m 38 #[.val (.ref ar), .val (.int ln), .val (.int (3 : Int32))] [(.ref ar)]))
          refine own_st (fun _ k => XS.iloadN X0.here hx rfl (hb hby d2_38) rfl k) ?_
          show own_Go _ _ _ _ (s₁.setTop (mkF m 39 #[.val (.ref ar), .val (.int ln), .val (.int (3 : Int32))] [(.int (3 : Int32)), (.ref ar)]))
          obtain ⟨cl10, Ar10, -, Sz10, Nn10, Hs10, -⟩ := id V_ar
          have hin10 : ¬ ((3 : Int32) < 0 ∨ cl10.slots.size ≤ ((3 : Int32)).toNatClampNeg) := inb_of Sz10 ⟨(by decide : ¬ ((3 : Int32) < (0 : Int32))), (by decide : (3 : Int32) < (8 : Int32))⟩
          have hat10 : cl10.slots[((3 : Int32)).toNatClampNeg]? = some (.int v3) := Hs10.at hin10 rfl
          refine own_st (X0.baloadBytes hx (j := (3 : Int32)) (v := (.int v3)) (by rw [e0]; exact Ar10.1) (State.isArrayOf_alike hZ.alike Ar10.2.1) Ar10.2.2 hin10 hat10 (g := (mkF m 39 #[.val (.ref ar), .val (.int ln), .val (.int (3 : Int32))] [(.int (3 : Int32)), (.ref ar)])) rfl rfl (hb hby d2_39)) ?_
          show own_Go _ _ _ _ (s₁.setTop (mkF m 40 #[.val (.ref ar), .val (.int ln), .val (.int (3 : Int32))] [(.int v3)]))
          refine own_st (fun _ k => XS.bipush X0.here hx rfl (hb hby d2_40) k) ?_
          show own_Go _ _ _ _ (s₁.setTop (mkF m 42 #[.val (.ref ar), .val (.int ln), .val (.int (3 : Int32))] [(.int (10 : Int32)), (.int v3)]))
          by_cases hc11 : v3 = (10 : Int32)
          · skip
            refine own_st (fun _ k => XS.icmpNo X0.here hx rfl (hb hby d2_42) rfl (teq hc11).2 k) ?_
            show own_Go _ _ _ _ (s₁.setTop (mkF m 45 #[.val (.ref ar), .val (.int ln), .val (.int (3 : Int32))] []))
            refine own_st (fun _ k => XS.iconst X0.here hx rfl (hb hby d2_45) k) ?_
            show own_Go _ _ _ _ (s₁.setTop (mkF m 46 #[.val (.ref ar), .val (.int ln), .val (.int (3 : Int32))] [(.int (1 : Int32))]))
            refine own_st (fun _ k => XS.goto X0.here hx rfl (pc0 := 46) (pc' := 50) rfl (hb hby d2_46) (by decide) (by decide) k) ?_
            show own_Go _ _ _ _ (s₁.setTop (mkF m 50 #[.val (.ref ar), .val (.int ln), .val (.int (3 : Int32))] [(.int (1 : Int32))]))
            obtain ⟨fs, hr, hrun, hended, hW, hsame⟩ := X0.leave (v := some (.int (1 : Int32))) (fun h => by rw [Bd.returns] at h; cases h)
            refine own_out (retN X0 hx (t := .boolean) Bd.returns (by simp) (hb hby d2_50) hr) ⟨hrun, hended, _, _, rfl, ?_, ⟨_, rfl⟩, hW, hsame.mono (by decide) (by decide)⟩
            show Q2_3 Z ar kk ln v0 v1 v2 v3 v4 v5 v6 v7 h0 n0 _ s₁.heap _
            have hv : own_bl ln (3 : Int32) v0 v1 v2 v3 = (1 : Int32) := by
              unfold own_bl
              rw [if_pos hc3, if_pos ⟨hc5, hc7, hc9, hc11⟩]
            exact ⟨by rw [hv], N0, e0⟩
          · skip
            refine own_st (fun _ k => XS.icmpYes X0.here hx rfl (pc0 := 42) (pc' := 49) rfl (hb hby d2_42) rfl (feq hc11).2 (by decide) (by decide) k) ?_
            show own_Go _ _ _ _ (s₁.setTop (mkF m 49 #[.val (.ref ar), .val (.int ln), .val (.int (3 : Int32))] []))
            refine own_st (fun _ k => XS.iconst X0.here hx rfl (hb hby d2_49) k) ?_
            show own_Go _ _ _ _ (s₁.setTop (mkF m 50 #[.val (.ref ar), .val (.int ln), .val (.int (3 : Int32))] [(.int (0 : Int32))]))
            obtain ⟨fs, hr, hrun, hended, hW, hsame⟩ := X0.leave (v := some (.int (0 : Int32))) (fun h => by rw [Bd.returns] at h; cases h)
            refine own_out (retN X0 hx (t := .boolean) Bd.returns (by simp) (hb hby d2_50) hr) ⟨hrun, hended, _, _, rfl, ?_, ⟨_, rfl⟩, hW, hsame.mono (by decide) (by decide)⟩
            show Q2_3 Z ar kk ln v0 v1 v2 v3 v4 v5 v6 v7 h0 n0 _ s₁.heap _
            have hv : own_bl ln (3 : Int32) v0 v1 v2 v3 = (0 : Int32) := by
              unfold own_bl
              rw [if_pos hc3, if_neg (fun q => hc11 q.2.2.2)]
            exact ⟨by rw [hv], N0, e0⟩
        · skip
          refine own_st (fun _ k => XS.icmpYes X0.here hx rfl (pc0 := 34) (pc' := 49) rfl (hb hby d2_34) rfl (feq hc9).2 (by decide) (by decide) k) ?_
          show own_Go _ _ _ _ (s₁.setTop (mkF m 49 #[.val (.ref ar), .val (.int ln), .val (.int (3 : Int32))] []))
          refine own_st (fun _ k => XS.iconst X0.here hx rfl (hb hby d2_49) k) ?_
          show own_Go _ _ _ _ (s₁.setTop (mkF m 50 #[.val (.ref ar), .val (.int ln), .val (.int (3 : Int32))] [(.int (0 : Int32))]))
          obtain ⟨fs, hr, hrun, hended, hW, hsame⟩ := X0.leave (v := some (.int (0 : Int32))) (fun h => by rw [Bd.returns] at h; cases h)
          refine own_out (retN X0 hx (t := .boolean) Bd.returns (by simp) (hb hby d2_50) hr) ⟨hrun, hended, _, _, rfl, ?_, ⟨_, rfl⟩, hW, hsame.mono (by decide) (by decide)⟩
          show Q2_3 Z ar kk ln v0 v1 v2 v3 v4 v5 v6 v7 h0 n0 _ s₁.heap _
          have hv : own_bl ln (3 : Int32) v0 v1 v2 v3 = (0 : Int32) := by
            unfold own_bl
            rw [if_pos hc3, if_neg (fun q => hc9 q.2.2.1)]
          exact ⟨by rw [hv], N0, e0⟩
      · skip
        refine own_st (fun _ k => XS.icmpYes X0.here hx rfl (pc0 := 24) (pc' := 49) rfl (hb hby d2_24) rfl (feq hc7).2 (by decide) (by decide) k) ?_
        show own_Go _ _ _ _ (s₁.setTop (mkF m 49 #[.val (.ref ar), .val (.int ln), .val (.int (3 : Int32))] []))
        refine own_st (fun _ k => XS.iconst X0.here hx rfl (hb hby d2_49) k) ?_
        show own_Go _ _ _ _ (s₁.setTop (mkF m 50 #[.val (.ref ar), .val (.int ln), .val (.int (3 : Int32))] [(.int (0 : Int32))]))
        obtain ⟨fs, hr, hrun, hended, hW, hsame⟩ := X0.leave (v := some (.int (0 : Int32))) (fun h => by rw [Bd.returns] at h; cases h)
        refine own_out (retN X0 hx (t := .boolean) Bd.returns (by simp) (hb hby d2_50) hr) ⟨hrun, hended, _, _, rfl, ?_, ⟨_, rfl⟩, hW, hsame.mono (by decide) (by decide)⟩
        show Q2_3 Z ar kk ln v0 v1 v2 v3 v4 v5 v6 v7 h0 n0 _ s₁.heap _
        have hv : own_bl ln (3 : Int32) v0 v1 v2 v3 = (0 : Int32) := by
          unfold own_bl
          rw [if_pos hc3, if_neg (fun q => hc7 q.2.1)]
        exact ⟨by rw [hv], N0, e0⟩
    · skip
      refine own_st (fun _ k => XS.icmpYes X0.here hx rfl (pc0 := 14) (pc' := 49) rfl (hb hby d2_14) rfl (feq hc5).2 (by decide) (by decide) k) ?_
      show own_Go _ _ _ _ (s₁.setTop (mkF m 49 #[.val (.ref ar), .val (.int ln), .val (.int (3 : Int32))] []))
      refine own_st (fun _ k => XS.iconst X0.here hx rfl (hb hby d2_49) k) ?_
      show own_Go _ _ _ _ (s₁.setTop (mkF m 50 #[.val (.ref ar), .val (.int ln), .val (.int (3 : Int32))] [(.int (0 : Int32))]))
      obtain ⟨fs, hr, hrun, hended, hW, hsame⟩ := X0.leave (v := some (.int (0 : Int32))) (fun h => by rw [Bd.returns] at h; cases h)
      refine own_out (retN X0 hx (t := .boolean) Bd.returns (by simp) (hb hby d2_50) hr) ⟨hrun, hended, _, _, rfl, ?_, ⟨_, rfl⟩, hW, hsame.mono (by decide) (by decide)⟩
      show Q2_3 Z ar kk ln v0 v1 v2 v3 v4 v5 v6 v7 h0 n0 _ s₁.heap _
      have hv : own_bl ln (3 : Int32) v0 v1 v2 v3 = (0 : Int32) := by
        unfold own_bl
        rw [if_pos hc3, if_neg (fun q => hc5 q.1)]
      exact ⟨by rw [hv], N0, e0⟩
  · skip
    refine own_st (fun _ k => XS.icmpNo X0.here hx rfl (hb hby d2_2) rfl (flt hc3).1 k) ?_
    show own_Go _ _ _ _ (s₁.setTop (mkF m 5 #[.val (.ref ar), .val (.int ln), .val (.int (3 : Int32))] []))
    refine own_st (fun _ k => XS.iconst X0.here hx rfl (hb hby d2_5) k) ?_
    show own_Go _ _ _ _ (s₁.setTop (mkF m 6 #[.val (.ref ar), .val (.int ln), .val (.int (3 : Int32))] [(.int (0 : Int32))]))
    obtain ⟨fs, hr, hrun, hended, hW, hsame⟩ := X0.leave (v := some (.int (0 : Int32))) (fun h => by rw [Bd.returns] at h; cases h)
    refine own_out (retN X0 hx (t := .boolean) Bd.returns (by simp) (hb hby d2_6) hr) ⟨hrun, hended, _, _, rfl, ?_, ⟨_, rfl⟩, hW, hsame.mono (by decide) (by decide)⟩
    show Q2_3 Z ar kk ln v0 v1 v2 v3 v4 v5 v6 v7 h0 n0 _ s₁.heap _
    have hv : own_bl ln (3 : Int32) v0 v1 v2 v3 = (0 : Int32) := by
      unfold own_bl
      rw [if_neg hc3]
    exact ⟨by rw [hv], N0, e0⟩
def Q2_4 (Z : State) (ar : Addr) (kk : ClassId) (ln : Int32) (v0 : Int32) (v1 : Int32) (v2 : Int32) (v3 : Int32) (v4 : Int32) (v5 : Int32) (v6 : Int32) (v7 : Int32) (h0 : Heap) (n0 : Nat) (v : Option Value) (h : Heap) (L : List Loc) : Prop := v = some (.int (own_bl ln (4 : Int32) v1 v2 v3 v4)) ∧ Fr n0 L ∧ h = h0
theorem ef_2_4 (m : MethodId) (x0 : Addr) (x1 : Int32) (x2 : Int32) : entryFrame m #[(.ref x0), (.int x1), (.int x2)] 3 = mkF m 0 #[.val (.ref x0), .val (.int x1), .val (.int x2)] [] := by first | (simp [entryFrame, mkF, argsToLocals, Value.category]; done) | rfl
set_option maxRecDepth 65536 in
set_option maxHeartbeats 40000000 in
theorem rm2_4 (l : Launch) (Z : State) (a0 : Array Value) (hw : ∀ d ∈ tables_1, d.before a0 Z = true) (ws : List Jvm.Cond) (ar : Addr) (kk : ClassId) (ln : Int32) (v0 : Int32) (v1 : Int32) (v2 : Int32) (v3 : Int32) (v4 : Int32) (v5 : Int32) (v6 : Int32) (v7 : Int32) (h0 : Heap) (n0 : Nat) (Z0 : n0 ≤ h0.size) (V_ar : Arv Z h0 ar kk .byte (8 : Int32) [.int v0, .int v1, .int v2, .int v3, .int v4, .int v5, .int v6, .int v7] (.int (0 : Int32))) :
    MetFree l (⟨"HttpHeadEndPinLaw", "blankLineEndsAt", "([BII)Z"⟩ : MethodName) (head1 (Jvm.Cond.code (⟨"HttpHeadEndPinLaw", "blankLineEndsAt", "([BII)Z"⟩ : MethodName) method_3_code 3 (some .boolean) :: ws) ({ frames := 0, cells := 0, slots := 0, locals := 0 } : Room)) (fun a U => a = #[(.ref ar), (.int ln), (.int (4 : Int32))] ∧ Z.Warmed39 U.vm ∧ U.heap = h0) (fun _ _ _ _ _ => True) (fun _ U o U' => ∃ v L, o = .returned v ∧ Q2_4 Z ar kk ln v0 v1 v2 v3 v4 v5 v6 v7 h0 n0 v U'.heap L ∧ FrameEnd U o U' L ({ frames := 0, cells := 0, slots := 0, locals := 0 } : Room).cells ({ frames := 0, cells := 0, slots := 0, locals := 0 } : Room).slots) := by
  refine MetFree.of_bodySF (plainFor_of_name own_pn0) hisR ?_
  intro p e s m args below meth c s₁ Bd hml0 hP hK
  obtain ⟨rfl, hZ, hh⟩ := hP
  have hx := Bd.exec
  have hby := Bd.bytes
  have hml : c.maxLocals = 3 := hml0
  have hown : s.vm.findClass "HttpHeadEndPinLaw" = some m.cls := findClass_of_methodNamed Bd.named
  have hnm := (name_of_methodNamed Bd.named Bd.method).1
  have X0 : Stand p l e ({ frames := 0, cells := 0, slots := 0, locals := 0 } : Room) s m #[(.ref ar), (.int ln), (.int (4 : Int32))] below meth c s₁ [] 0 0 := Stand.of_body Bd
  have e0 : s₁.heap = h0 := by rw [← hh, Bd.state]; rfl
  have N0 := Fr.nil n0
  refine own_in ?_
  refine own_st (fun _ k => castTop (ef_2_4 m ar ln (4 : Int32)) k) ?_
  have K0 : Keep h0 h0 [] := Keep.refl h0 []
  show own_Go _ _ _ _ (s₁.setTop (mkF m 0 #[.val (.ref ar), .val (.int ln), .val (.int (4 : Int32))] []))
  refine own_st (fun _ k => XS.iloadN X0.here hx rfl (hb hby d2_0) rfl k) ?_
  show own_Go _ _ _ _ (s₁.setTop (mkF m 1 #[.val (.ref ar), .val (.int ln), .val (.int (4 : Int32))] [(.int (4 : Int32))]))
  refine own_st (fun _ k => XS.iloadN X0.here hx rfl (hb hby d2_1) rfl k) ?_
  show own_Go _ _ _ _ (s₁.setTop (mkF m 2 #[.val (.ref ar), .val (.int ln), .val (.int (4 : Int32))] [(.int ln), (.int (4 : Int32))]))
  by_cases hc12 : (4 : Int32) < ln
  · skip
    refine own_st (fun _ k => XS.icmpYes X0.here hx rfl (pc0 := 2) (pc' := 7) rfl (hb hby d2_2) rfl (tlt hc12).1 (by decide) (by decide) k) ?_
    show own_Go _ _ _ _ (s₁.setTop (mkF m 7 #[.val (.ref ar), .val (.int ln), .val (.int (4 : Int32))] []))
    refine own_st (fun _ k => XS.aloadN X0.here hx rfl (hb hby d2_7) rfl rfl k) ?_
    show own_Go _ _ _ _ (s₁.setTop (mkF m 8 #[.val (.ref ar), .val (.int ln), .val (.int (4 : Int32))] [(.ref ar)]))
    refine own_st (fun _ k => XS.iloadN X0.here hx rfl (hb hby d2_8) rfl k) ?_
    show own_Go _ _ _ _ (s₁.setTop (mkF m 9 #[.val (.ref ar), .val (.int ln), .val (.int (4 : Int32))] [(.int (4 : Int32)), (.ref ar)]))
    refine own_st (fun _ k => XS.iconst X0.here hx rfl (hb hby d2_9) k) ?_
    show own_Go _ _ _ _ (s₁.setTop (mkF m 10 #[.val (.ref ar), .val (.int ln), .val (.int (4 : Int32))] [(.int (3 : Int32)), (.int (4 : Int32)), (.ref ar)]))
    refine own_st (fun _ k => XS.isub X0.here hx rfl (hb hby d2_10) rfl k) ?_
    show own_Go _ _ _ _ (s₁.setTop (mkF m 11 #[.val (.ref ar), .val (.int ln), .val (.int (4 : Int32))] [(.int (1 : Int32)), (.ref ar)]))
    obtain ⟨cl13, Ar13, -, Sz13, Nn13, Hs13, -⟩ := id V_ar
    have hin13 : ¬ ((1 : Int32) < 0 ∨ cl13.slots.size ≤ ((1 : Int32)).toNatClampNeg) := inb_of Sz13 ⟨(by decide : ¬ ((1 : Int32) < (0 : Int32))), (by decide : (1 : Int32) < (8 : Int32))⟩
    have hat13 : cl13.slots[((1 : Int32)).toNatClampNeg]? = some (.int v1) := Hs13.at hin13 rfl
    refine own_st (X0.baloadBytes hx (j := (1 : Int32)) (v := (.int v1)) (by rw [e0]; exact Ar13.1) (State.isArrayOf_alike hZ.alike Ar13.2.1) Ar13.2.2 hin13 hat13 (g := (mkF m 11 #[.val (.ref ar), .val (.int ln), .val (.int (4 : Int32))] [(.int (1 : Int32)), (.ref ar)])) rfl rfl (hb hby d2_11)) ?_
    show own_Go _ _ _ _ (s₁.setTop (mkF m 12 #[.val (.ref ar), .val (.int ln), .val (.int (4 : Int32))] [(.int v1)]))
    refine own_st (fun _ k => XS.bipush X0.here hx rfl (hb hby d2_12) k) ?_
    show own_Go _ _ _ _ (s₁.setTop (mkF m 14 #[.val (.ref ar), .val (.int ln), .val (.int (4 : Int32))] [(.int (13 : Int32)), (.int v1)]))
    by_cases hc14 : v1 = (13 : Int32)
    · skip
      refine own_st (fun _ k => XS.icmpNo X0.here hx rfl (hb hby d2_14) rfl (teq hc14).2 k) ?_
      show own_Go _ _ _ _ (s₁.setTop (mkF m 17 #[.val (.ref ar), .val (.int ln), .val (.int (4 : Int32))] []))
      refine own_st (fun _ k => XS.aloadN X0.here hx rfl (hb hby d2_17) rfl rfl k) ?_
      show own_Go _ _ _ _ (s₁.setTop (mkF m 18 #[.val (.ref ar), .val (.int ln), .val (.int (4 : Int32))] [(.ref ar)]))
      refine own_st (fun _ k => XS.iloadN X0.here hx rfl (hb hby d2_18) rfl k) ?_
      show own_Go _ _ _ _ (s₁.setTop (mkF m 19 #[.val (.ref ar), .val (.int ln), .val (.int (4 : Int32))] [(.int (4 : Int32)), (.ref ar)]))
      refine own_st (fun _ k => XS.iconst X0.here hx rfl (hb hby d2_19) k) ?_
      show own_Go _ _ _ _ (s₁.setTop (mkF m 20 #[.val (.ref ar), .val (.int ln), .val (.int (4 : Int32))] [(.int (2 : Int32)), (.int (4 : Int32)), (.ref ar)]))
      refine own_st (fun _ k => XS.isub X0.here hx rfl (hb hby d2_20) rfl k) ?_
      show own_Go _ _ _ _ (s₁.setTop (mkF m 21 #[.val (.ref ar), .val (.int ln), .val (.int (4 : Int32))] [(.int (2 : Int32)), (.ref ar)]))
      obtain ⟨cl15, Ar15, -, Sz15, Nn15, Hs15, -⟩ := id V_ar
      have hin15 : ¬ ((2 : Int32) < 0 ∨ cl15.slots.size ≤ ((2 : Int32)).toNatClampNeg) := inb_of Sz15 ⟨(by decide : ¬ ((2 : Int32) < (0 : Int32))), (by decide : (2 : Int32) < (8 : Int32))⟩
      have hat15 : cl15.slots[((2 : Int32)).toNatClampNeg]? = some (.int v2) := Hs15.at hin15 rfl
      refine own_st (X0.baloadBytes hx (j := (2 : Int32)) (v := (.int v2)) (by rw [e0]; exact Ar15.1) (State.isArrayOf_alike hZ.alike Ar15.2.1) Ar15.2.2 hin15 hat15 (g := (mkF m 21 #[.val (.ref ar), .val (.int ln), .val (.int (4 : Int32))] [(.int (2 : Int32)), (.ref ar)])) rfl rfl (hb hby d2_21)) ?_
      show own_Go _ _ _ _ (s₁.setTop (mkF m 22 #[.val (.ref ar), .val (.int ln), .val (.int (4 : Int32))] [(.int v2)]))
      refine own_st (fun _ k => XS.bipush X0.here hx rfl (hb hby d2_22) k) ?_
      show own_Go _ _ _ _ (s₁.setTop (mkF m 24 #[.val (.ref ar), .val (.int ln), .val (.int (4 : Int32))] [(.int (10 : Int32)), (.int v2)]))
      by_cases hc16 : v2 = (10 : Int32)
      · skip
        refine own_st (fun _ k => XS.icmpNo X0.here hx rfl (hb hby d2_24) rfl (teq hc16).2 k) ?_
        show own_Go _ _ _ _ (s₁.setTop (mkF m 27 #[.val (.ref ar), .val (.int ln), .val (.int (4 : Int32))] []))
        refine own_st (fun _ k => XS.aloadN X0.here hx rfl (hb hby d2_27) rfl rfl k) ?_
        show own_Go _ _ _ _ (s₁.setTop (mkF m 28 #[.val (.ref ar), .val (.int ln), .val (.int (4 : Int32))] [(.ref ar)]))
        refine own_st (fun _ k => XS.iloadN X0.here hx rfl (hb hby d2_28) rfl k) ?_
        show own_Go _ _ _ _ (s₁.setTop (mkF m 29 #[.val (.ref ar), .val (.int ln), .val (.int (4 : Int32))] [(.int (4 : Int32)), (.ref ar)]))
        refine own_st (fun _ k => XS.iconst X0.here hx rfl (hb hby d2_29) k) ?_
        show own_Go _ _ _ _ (s₁.setTop (mkF m 30 #[.val (.ref ar), .val (.int ln), .val (.int (4 : Int32))] [(.int (1 : Int32)), (.int (4 : Int32)), (.ref ar)]))
        refine own_st (fun _ k => XS.isub X0.here hx rfl (hb hby d2_30) rfl k) ?_
        show own_Go _ _ _ _ (s₁.setTop (mkF m 31 #[.val (.ref ar), .val (.int ln), .val (.int (4 : Int32))] [(.int (3 : Int32)), (.ref ar)]))
        obtain ⟨cl17, Ar17, -, Sz17, Nn17, Hs17, -⟩ := id V_ar
        have hin17 : ¬ ((3 : Int32) < 0 ∨ cl17.slots.size ≤ ((3 : Int32)).toNatClampNeg) := inb_of Sz17 ⟨(by decide : ¬ ((3 : Int32) < (0 : Int32))), (by decide : (3 : Int32) < (8 : Int32))⟩
        have hat17 : cl17.slots[((3 : Int32)).toNatClampNeg]? = some (.int v3) := Hs17.at hin17 rfl
        refine own_st (X0.baloadBytes hx (j := (3 : Int32)) (v := (.int v3)) (by rw [e0]; exact Ar17.1) (State.isArrayOf_alike hZ.alike Ar17.2.1) Ar17.2.2 hin17 hat17 (g := (mkF m 31 #[.val (.ref ar), .val (.int ln), .val (.int (4 : Int32))] [(.int (3 : Int32)), (.ref ar)])) rfl rfl (hb hby d2_31)) ?_
        show own_Go _ _ _ _ (s₁.setTop (mkF m 32 #[.val (.ref ar), .val (.int ln), .val (.int (4 : Int32))] [(.int v3)]))
        refine own_st (fun _ k => XS.bipush X0.here hx rfl (hb hby d2_32) k) ?_
        show own_Go _ _ _ _ (s₁.setTop (mkF m 34 #[.val (.ref ar), .val (.int ln), .val (.int (4 : Int32))] [(.int (13 : Int32)), (.int v3)]))
        by_cases hc18 : v3 = (13 : Int32)
        · skip
          refine own_st (fun _ k => XS.icmpNo X0.here hx rfl (hb hby d2_34) rfl (teq hc18).2 k) ?_
          show own_Go _ _ _ _ (s₁.setTop (mkF m 37 #[.val (.ref ar), .val (.int ln), .val (.int (4 : Int32))] []))
          refine own_st (fun _ k => XS.aloadN X0.here hx rfl (hb hby d2_37) rfl rfl k) ?_
          show own_Go _ _ _ _ (s₁.setTop (mkF m 38 #[.val (.ref ar), .val (.int ln), .val (.int (4 : Int32))] [(.ref ar)]))
          refine own_st (fun _ k => XS.iloadN X0.here hx rfl (hb hby d2_38) rfl k) ?_
          show own_Go _ _ _ _ (s₁.setTop (mkF m 39 #[.val (.ref ar), .val (.int ln), .val (.int (4 : Int32))] [(.int (4 : Int32)), (.ref ar)]))
          obtain ⟨cl19, Ar19, -, Sz19, Nn19, Hs19, -⟩ := id V_ar
          have hin19 : ¬ ((4 : Int32) < 0 ∨ cl19.slots.size ≤ ((4 : Int32)).toNatClampNeg) := inb_of Sz19 ⟨(by decide : ¬ ((4 : Int32) < (0 : Int32))), (by decide : (4 : Int32) < (8 : Int32))⟩
          have hat19 : cl19.slots[((4 : Int32)).toNatClampNeg]? = some (.int v4) := Hs19.at hin19 rfl
          refine own_st (X0.baloadBytes hx (j := (4 : Int32)) (v := (.int v4)) (by rw [e0]; exact Ar19.1) (State.isArrayOf_alike hZ.alike Ar19.2.1) Ar19.2.2 hin19 hat19 (g := (mkF m 39 #[.val (.ref ar), .val (.int ln), .val (.int (4 : Int32))] [(.int (4 : Int32)), (.ref ar)])) rfl rfl (hb hby d2_39)) ?_
          show own_Go _ _ _ _ (s₁.setTop (mkF m 40 #[.val (.ref ar), .val (.int ln), .val (.int (4 : Int32))] [(.int v4)]))
          refine own_st (fun _ k => XS.bipush X0.here hx rfl (hb hby d2_40) k) ?_
          show own_Go _ _ _ _ (s₁.setTop (mkF m 42 #[.val (.ref ar), .val (.int ln), .val (.int (4 : Int32))] [(.int (10 : Int32)), (.int v4)]))
          by_cases hc20 : v4 = (10 : Int32)
          · skip
            refine own_st (fun _ k => XS.icmpNo X0.here hx rfl (hb hby d2_42) rfl (teq hc20).2 k) ?_
            show own_Go _ _ _ _ (s₁.setTop (mkF m 45 #[.val (.ref ar), .val (.int ln), .val (.int (4 : Int32))] []))
            refine own_st (fun _ k => XS.iconst X0.here hx rfl (hb hby d2_45) k) ?_
            show own_Go _ _ _ _ (s₁.setTop (mkF m 46 #[.val (.ref ar), .val (.int ln), .val (.int (4 : Int32))] [(.int (1 : Int32))]))
            refine own_st (fun _ k => XS.goto X0.here hx rfl (pc0 := 46) (pc' := 50) rfl (hb hby d2_46) (by decide) (by decide) k) ?_
            show own_Go _ _ _ _ (s₁.setTop (mkF m 50 #[.val (.ref ar), .val (.int ln), .val (.int (4 : Int32))] [(.int (1 : Int32))]))
            obtain ⟨fs, hr, hrun, hended, hW, hsame⟩ := X0.leave (v := some (.int (1 : Int32))) (fun h => by rw [Bd.returns] at h; cases h)
            refine own_out (retN X0 hx (t := .boolean) Bd.returns (by simp) (hb hby d2_50) hr) ⟨hrun, hended, _, _, rfl, ?_, ⟨_, rfl⟩, hW, hsame.mono (by decide) (by decide)⟩
            show Q2_4 Z ar kk ln v0 v1 v2 v3 v4 v5 v6 v7 h0 n0 _ s₁.heap _
            have hv : own_bl ln (4 : Int32) v1 v2 v3 v4 = (1 : Int32) := by
              unfold own_bl
              rw [if_pos hc12, if_pos ⟨hc14, hc16, hc18, hc20⟩]
            exact ⟨by rw [hv], N0, e0⟩
          · skip
            refine own_st (fun _ k => XS.icmpYes X0.here hx rfl (pc0 := 42) (pc' := 49) rfl (hb hby d2_42) rfl (feq hc20).2 (by decide) (by decide) k) ?_
            show own_Go _ _ _ _ (s₁.setTop (mkF m 49 #[.val (.ref ar), .val (.int ln), .val (.int (4 : Int32))] []))
            refine own_st (fun _ k => XS.iconst X0.here hx rfl (hb hby d2_49) k) ?_
            show own_Go _ _ _ _ (s₁.setTop (mkF m 50 #[.val (.ref ar), .val (.int ln), .val (.int (4 : Int32))] [(.int (0 : Int32))]))
            obtain ⟨fs, hr, hrun, hended, hW, hsame⟩ := X0.leave (v := some (.int (0 : Int32))) (fun h => by rw [Bd.returns] at h; cases h)
            refine own_out (retN X0 hx (t := .boolean) Bd.returns (by simp) (hb hby d2_50) hr) ⟨hrun, hended, _, _, rfl, ?_, ⟨_, rfl⟩, hW, hsame.mono (by decide) (by decide)⟩
            show Q2_4 Z ar kk ln v0 v1 v2 v3 v4 v5 v6 v7 h0 n0 _ s₁.heap _
            have hv : own_bl ln (4 : Int32) v1 v2 v3 v4 = (0 : Int32) := by
              unfold own_bl
              rw [if_pos hc12, if_neg (fun q => hc20 q.2.2.2)]
            exact ⟨by rw [hv], N0, e0⟩
        · skip
          refine own_st (fun _ k => XS.icmpYes X0.here hx rfl (pc0 := 34) (pc' := 49) rfl (hb hby d2_34) rfl (feq hc18).2 (by decide) (by decide) k) ?_
          show own_Go _ _ _ _ (s₁.setTop (mkF m 49 #[.val (.ref ar), .val (.int ln), .val (.int (4 : Int32))] []))
          refine own_st (fun _ k => XS.iconst X0.here hx rfl (hb hby d2_49) k) ?_
          show own_Go _ _ _ _ (s₁.setTop (mkF m 50 #[.val (.ref ar), .val (.int ln), .val (.int (4 : Int32))] [(.int (0 : Int32))]))
          obtain ⟨fs, hr, hrun, hended, hW, hsame⟩ := X0.leave (v := some (.int (0 : Int32))) (fun h => by rw [Bd.returns] at h; cases h)
          refine own_out (retN X0 hx (t := .boolean) Bd.returns (by simp) (hb hby d2_50) hr) ⟨hrun, hended, _, _, rfl, ?_, ⟨_, rfl⟩, hW, hsame.mono (by decide) (by decide)⟩
          show Q2_4 Z ar kk ln v0 v1 v2 v3 v4 v5 v6 v7 h0 n0 _ s₁.heap _
          have hv : own_bl ln (4 : Int32) v1 v2 v3 v4 = (0 : Int32) := by
            unfold own_bl
            rw [if_pos hc12, if_neg (fun q => hc18 q.2.2.1)]
          exact ⟨by rw [hv], N0, e0⟩
      · skip
        refine own_st (fun _ k => XS.icmpYes X0.here hx rfl (pc0 := 24) (pc' := 49) rfl (hb hby d2_24) rfl (feq hc16).2 (by decide) (by decide) k) ?_
        show own_Go _ _ _ _ (s₁.setTop (mkF m 49 #[.val (.ref ar), .val (.int ln), .val (.int (4 : Int32))] []))
        refine own_st (fun _ k => XS.iconst X0.here hx rfl (hb hby d2_49) k) ?_
        show own_Go _ _ _ _ (s₁.setTop (mkF m 50 #[.val (.ref ar), .val (.int ln), .val (.int (4 : Int32))] [(.int (0 : Int32))]))
        obtain ⟨fs, hr, hrun, hended, hW, hsame⟩ := X0.leave (v := some (.int (0 : Int32))) (fun h => by rw [Bd.returns] at h; cases h)
        refine own_out (retN X0 hx (t := .boolean) Bd.returns (by simp) (hb hby d2_50) hr) ⟨hrun, hended, _, _, rfl, ?_, ⟨_, rfl⟩, hW, hsame.mono (by decide) (by decide)⟩
        show Q2_4 Z ar kk ln v0 v1 v2 v3 v4 v5 v6 v7 h0 n0 _ s₁.heap _
        have hv : own_bl ln (4 : Int32) v1 v2 v3 v4 = (0 : Int32) := by
          unfold own_bl
          rw [if_pos hc12, if_neg (fun q => hc16 q.2.1)]
        exact ⟨by rw [hv], N0, e0⟩
    · skip
      refine own_st (fun _ k => XS.icmpYes X0.here hx rfl (pc0 := 14) (pc' := 49) rfl (hb hby d2_14) rfl (feq hc14).2 (by decide) (by decide) k) ?_
      show own_Go _ _ _ _ (s₁.setTop (mkF m 49 #[.val (.ref ar), .val (.int ln), .val (.int (4 : Int32))] []))
      refine own_st (fun _ k => XS.iconst X0.here hx rfl (hb hby d2_49) k) ?_
      show own_Go _ _ _ _ (s₁.setTop (mkF m 50 #[.val (.ref ar), .val (.int ln), .val (.int (4 : Int32))] [(.int (0 : Int32))]))
      obtain ⟨fs, hr, hrun, hended, hW, hsame⟩ := X0.leave (v := some (.int (0 : Int32))) (fun h => by rw [Bd.returns] at h; cases h)
      refine own_out (retN X0 hx (t := .boolean) Bd.returns (by simp) (hb hby d2_50) hr) ⟨hrun, hended, _, _, rfl, ?_, ⟨_, rfl⟩, hW, hsame.mono (by decide) (by decide)⟩
      show Q2_4 Z ar kk ln v0 v1 v2 v3 v4 v5 v6 v7 h0 n0 _ s₁.heap _
      have hv : own_bl ln (4 : Int32) v1 v2 v3 v4 = (0 : Int32) := by
        unfold own_bl
        rw [if_pos hc12, if_neg (fun q => hc14 q.1)]
      exact ⟨by rw [hv], N0, e0⟩
  · skip
    refine own_st (fun _ k => XS.icmpNo X0.here hx rfl (hb hby d2_2) rfl (flt hc12).1 k) ?_
    show own_Go _ _ _ _ (s₁.setTop (mkF m 5 #[.val (.ref ar), .val (.int ln), .val (.int (4 : Int32))] []))
    refine own_st (fun _ k => XS.iconst X0.here hx rfl (hb hby d2_5) k) ?_
    show own_Go _ _ _ _ (s₁.setTop (mkF m 6 #[.val (.ref ar), .val (.int ln), .val (.int (4 : Int32))] [(.int (0 : Int32))]))
    obtain ⟨fs, hr, hrun, hended, hW, hsame⟩ := X0.leave (v := some (.int (0 : Int32))) (fun h => by rw [Bd.returns] at h; cases h)
    refine own_out (retN X0 hx (t := .boolean) Bd.returns (by simp) (hb hby d2_6) hr) ⟨hrun, hended, _, _, rfl, ?_, ⟨_, rfl⟩, hW, hsame.mono (by decide) (by decide)⟩
    show Q2_4 Z ar kk ln v0 v1 v2 v3 v4 v5 v6 v7 h0 n0 _ s₁.heap _
    have hv : own_bl ln (4 : Int32) v1 v2 v3 v4 = (0 : Int32) := by
      unfold own_bl
      rw [if_neg hc12]
    exact ⟨by rw [hv], N0, e0⟩
def Q2_5 (Z : State) (ar : Addr) (kk : ClassId) (ln : Int32) (v0 : Int32) (v1 : Int32) (v2 : Int32) (v3 : Int32) (v4 : Int32) (v5 : Int32) (v6 : Int32) (v7 : Int32) (h0 : Heap) (n0 : Nat) (v : Option Value) (h : Heap) (L : List Loc) : Prop := v = some (.int (own_bl ln (5 : Int32) v2 v3 v4 v5)) ∧ Fr n0 L ∧ h = h0
theorem ef_2_5 (m : MethodId) (x0 : Addr) (x1 : Int32) (x2 : Int32) : entryFrame m #[(.ref x0), (.int x1), (.int x2)] 3 = mkF m 0 #[.val (.ref x0), .val (.int x1), .val (.int x2)] [] := by first | (simp [entryFrame, mkF, argsToLocals, Value.category]; done) | rfl
set_option maxRecDepth 65536 in
set_option maxHeartbeats 40000000 in
theorem rm2_5 (l : Launch) (Z : State) (a0 : Array Value) (hw : ∀ d ∈ tables_1, d.before a0 Z = true) (ws : List Jvm.Cond) (ar : Addr) (kk : ClassId) (ln : Int32) (v0 : Int32) (v1 : Int32) (v2 : Int32) (v3 : Int32) (v4 : Int32) (v5 : Int32) (v6 : Int32) (v7 : Int32) (h0 : Heap) (n0 : Nat) (Z0 : n0 ≤ h0.size) (V_ar : Arv Z h0 ar kk .byte (8 : Int32) [.int v0, .int v1, .int v2, .int v3, .int v4, .int v5, .int v6, .int v7] (.int (0 : Int32))) :
    MetFree l (⟨"HttpHeadEndPinLaw", "blankLineEndsAt", "([BII)Z"⟩ : MethodName) (head1 (Jvm.Cond.code (⟨"HttpHeadEndPinLaw", "blankLineEndsAt", "([BII)Z"⟩ : MethodName) method_3_code 3 (some .boolean) :: ws) ({ frames := 0, cells := 0, slots := 0, locals := 0 } : Room)) (fun a U => a = #[(.ref ar), (.int ln), (.int (5 : Int32))] ∧ Z.Warmed39 U.vm ∧ U.heap = h0) (fun _ _ _ _ _ => True) (fun _ U o U' => ∃ v L, o = .returned v ∧ Q2_5 Z ar kk ln v0 v1 v2 v3 v4 v5 v6 v7 h0 n0 v U'.heap L ∧ FrameEnd U o U' L ({ frames := 0, cells := 0, slots := 0, locals := 0 } : Room).cells ({ frames := 0, cells := 0, slots := 0, locals := 0 } : Room).slots) := by
  refine MetFree.of_bodySF (plainFor_of_name own_pn0) hisR ?_
  intro p e s m args below meth c s₁ Bd hml0 hP hK
  obtain ⟨rfl, hZ, hh⟩ := hP
  have hx := Bd.exec
  have hby := Bd.bytes
  have hml : c.maxLocals = 3 := hml0
  have hown : s.vm.findClass "HttpHeadEndPinLaw" = some m.cls := findClass_of_methodNamed Bd.named
  have hnm := (name_of_methodNamed Bd.named Bd.method).1
  have X0 : Stand p l e ({ frames := 0, cells := 0, slots := 0, locals := 0 } : Room) s m #[(.ref ar), (.int ln), (.int (5 : Int32))] below meth c s₁ [] 0 0 := Stand.of_body Bd
  have e0 : s₁.heap = h0 := by rw [← hh, Bd.state]; rfl
  have N0 := Fr.nil n0
  refine own_in ?_
  refine own_st (fun _ k => castTop (ef_2_5 m ar ln (5 : Int32)) k) ?_
  have K0 : Keep h0 h0 [] := Keep.refl h0 []
  show own_Go _ _ _ _ (s₁.setTop (mkF m 0 #[.val (.ref ar), .val (.int ln), .val (.int (5 : Int32))] []))
  refine own_st (fun _ k => XS.iloadN X0.here hx rfl (hb hby d2_0) rfl k) ?_
  show own_Go _ _ _ _ (s₁.setTop (mkF m 1 #[.val (.ref ar), .val (.int ln), .val (.int (5 : Int32))] [(.int (5 : Int32))]))
  refine own_st (fun _ k => XS.iloadN X0.here hx rfl (hb hby d2_1) rfl k) ?_
  show own_Go _ _ _ _ (s₁.setTop (mkF m 2 #[.val (.ref ar), .val (.int ln), .val (.int (5 : Int32))] [(.int ln), (.int (5 : Int32))]))
  by_cases hc21 : (5 : Int32) < ln
  · skip
    refine own_st (fun _ k => XS.icmpYes X0.here hx rfl (pc0 := 2) (pc' := 7) rfl (hb hby d2_2) rfl (tlt hc21).1 (by decide) (by decide) k) ?_
    show own_Go _ _ _ _ (s₁.setTop (mkF m 7 #[.val (.ref ar), .val (.int ln), .val (.int (5 : Int32))] []))
    refine own_st (fun _ k => XS.aloadN X0.here hx rfl (hb hby d2_7) rfl rfl k) ?_
    show own_Go _ _ _ _ (s₁.setTop (mkF m 8 #[.val (.ref ar), .val (.int ln), .val (.int (5 : Int32))] [(.ref ar)]))
    refine own_st (fun _ k => XS.iloadN X0.here hx rfl (hb hby d2_8) rfl k) ?_
    show own_Go _ _ _ _ (s₁.setTop (mkF m 9 #[.val (.ref ar), .val (.int ln), .val (.int (5 : Int32))] [(.int (5 : Int32)), (.ref ar)]))
    refine own_st (fun _ k => XS.iconst X0.here hx rfl (hb hby d2_9) k) ?_
    show own_Go _ _ _ _ (s₁.setTop (mkF m 10 #[.val (.ref ar), .val (.int ln), .val (.int (5 : Int32))] [(.int (3 : Int32)), (.int (5 : Int32)), (.ref ar)]))
    refine own_st (fun _ k => XS.isub X0.here hx rfl (hb hby d2_10) rfl k) ?_
    show own_Go _ _ _ _ (s₁.setTop (mkF m 11 #[.val (.ref ar), .val (.int ln), .val (.int (5 : Int32))] [(.int (2 : Int32)), (.ref ar)]))
    obtain ⟨cl22, Ar22, -, Sz22, Nn22, Hs22, -⟩ := id V_ar
    have hin22 : ¬ ((2 : Int32) < 0 ∨ cl22.slots.size ≤ ((2 : Int32)).toNatClampNeg) := inb_of Sz22 ⟨(by decide : ¬ ((2 : Int32) < (0 : Int32))), (by decide : (2 : Int32) < (8 : Int32))⟩
    have hat22 : cl22.slots[((2 : Int32)).toNatClampNeg]? = some (.int v2) := Hs22.at hin22 rfl
    refine own_st (X0.baloadBytes hx (j := (2 : Int32)) (v := (.int v2)) (by rw [e0]; exact Ar22.1) (State.isArrayOf_alike hZ.alike Ar22.2.1) Ar22.2.2 hin22 hat22 (g := (mkF m 11 #[.val (.ref ar), .val (.int ln), .val (.int (5 : Int32))] [(.int (2 : Int32)), (.ref ar)])) rfl rfl (hb hby d2_11)) ?_
    show own_Go _ _ _ _ (s₁.setTop (mkF m 12 #[.val (.ref ar), .val (.int ln), .val (.int (5 : Int32))] [(.int v2)]))
    refine own_st (fun _ k => XS.bipush X0.here hx rfl (hb hby d2_12) k) ?_
    show own_Go _ _ _ _ (s₁.setTop (mkF m 14 #[.val (.ref ar), .val (.int ln), .val (.int (5 : Int32))] [(.int (13 : Int32)), (.int v2)]))
    by_cases hc23 : v2 = (13 : Int32)
    · skip
      refine own_st (fun _ k => XS.icmpNo X0.here hx rfl (hb hby d2_14) rfl (teq hc23).2 k) ?_
      show own_Go _ _ _ _ (s₁.setTop (mkF m 17 #[.val (.ref ar), .val (.int ln), .val (.int (5 : Int32))] []))
      refine own_st (fun _ k => XS.aloadN X0.here hx rfl (hb hby d2_17) rfl rfl k) ?_
      show own_Go _ _ _ _ (s₁.setTop (mkF m 18 #[.val (.ref ar), .val (.int ln), .val (.int (5 : Int32))] [(.ref ar)]))
      refine own_st (fun _ k => XS.iloadN X0.here hx rfl (hb hby d2_18) rfl k) ?_
      show own_Go _ _ _ _ (s₁.setTop (mkF m 19 #[.val (.ref ar), .val (.int ln), .val (.int (5 : Int32))] [(.int (5 : Int32)), (.ref ar)]))
      refine own_st (fun _ k => XS.iconst X0.here hx rfl (hb hby d2_19) k) ?_
      show own_Go _ _ _ _ (s₁.setTop (mkF m 20 #[.val (.ref ar), .val (.int ln), .val (.int (5 : Int32))] [(.int (2 : Int32)), (.int (5 : Int32)), (.ref ar)]))
      refine own_st (fun _ k => XS.isub X0.here hx rfl (hb hby d2_20) rfl k) ?_
      show own_Go _ _ _ _ (s₁.setTop (mkF m 21 #[.val (.ref ar), .val (.int ln), .val (.int (5 : Int32))] [(.int (3 : Int32)), (.ref ar)]))
      obtain ⟨cl24, Ar24, -, Sz24, Nn24, Hs24, -⟩ := id V_ar
      have hin24 : ¬ ((3 : Int32) < 0 ∨ cl24.slots.size ≤ ((3 : Int32)).toNatClampNeg) := inb_of Sz24 ⟨(by decide : ¬ ((3 : Int32) < (0 : Int32))), (by decide : (3 : Int32) < (8 : Int32))⟩
      have hat24 : cl24.slots[((3 : Int32)).toNatClampNeg]? = some (.int v3) := Hs24.at hin24 rfl
      refine own_st (X0.baloadBytes hx (j := (3 : Int32)) (v := (.int v3)) (by rw [e0]; exact Ar24.1) (State.isArrayOf_alike hZ.alike Ar24.2.1) Ar24.2.2 hin24 hat24 (g := (mkF m 21 #[.val (.ref ar), .val (.int ln), .val (.int (5 : Int32))] [(.int (3 : Int32)), (.ref ar)])) rfl rfl (hb hby d2_21)) ?_
      show own_Go _ _ _ _ (s₁.setTop (mkF m 22 #[.val (.ref ar), .val (.int ln), .val (.int (5 : Int32))] [(.int v3)]))
      refine own_st (fun _ k => XS.bipush X0.here hx rfl (hb hby d2_22) k) ?_
      show own_Go _ _ _ _ (s₁.setTop (mkF m 24 #[.val (.ref ar), .val (.int ln), .val (.int (5 : Int32))] [(.int (10 : Int32)), (.int v3)]))
      by_cases hc25 : v3 = (10 : Int32)
      · skip
        refine own_st (fun _ k => XS.icmpNo X0.here hx rfl (hb hby d2_24) rfl (teq hc25).2 k) ?_
        show own_Go _ _ _ _ (s₁.setTop (mkF m 27 #[.val (.ref ar), .val (.int ln), .val (.int (5 : Int32))] []))
        refine own_st (fun _ k => XS.aloadN X0.here hx rfl (hb hby d2_27) rfl rfl k) ?_
        show own_Go _ _ _ _ (s₁.setTop (mkF m 28 #[.val (.ref ar), .val (.int ln), .val (.int (5 : Int32))] [(.ref ar)]))
        refine own_st (fun _ k => XS.iloadN X0.here hx rfl (hb hby d2_28) rfl k) ?_
        show own_Go _ _ _ _ (s₁.setTop (mkF m 29 #[.val (.ref ar), .val (.int ln), .val (.int (5 : Int32))] [(.int (5 : Int32)), (.ref ar)]))
        refine own_st (fun _ k => XS.iconst X0.here hx rfl (hb hby d2_29) k) ?_
        show own_Go _ _ _ _ (s₁.setTop (mkF m 30 #[.val (.ref ar), .val (.int ln), .val (.int (5 : Int32))] [(.int (1 : Int32)), (.int (5 : Int32)), (.ref ar)]))
        refine own_st (fun _ k => XS.isub X0.here hx rfl (hb hby d2_30) rfl k) ?_
        show own_Go _ _ _ _ (s₁.setTop (mkF m 31 #[.val (.ref ar), .val (.int ln), .val (.int (5 : Int32))] [(.int (4 : Int32)), (.ref ar)]))
        obtain ⟨cl26, Ar26, -, Sz26, Nn26, Hs26, -⟩ := id V_ar
        have hin26 : ¬ ((4 : Int32) < 0 ∨ cl26.slots.size ≤ ((4 : Int32)).toNatClampNeg) := inb_of Sz26 ⟨(by decide : ¬ ((4 : Int32) < (0 : Int32))), (by decide : (4 : Int32) < (8 : Int32))⟩
        have hat26 : cl26.slots[((4 : Int32)).toNatClampNeg]? = some (.int v4) := Hs26.at hin26 rfl
        refine own_st (X0.baloadBytes hx (j := (4 : Int32)) (v := (.int v4)) (by rw [e0]; exact Ar26.1) (State.isArrayOf_alike hZ.alike Ar26.2.1) Ar26.2.2 hin26 hat26 (g := (mkF m 31 #[.val (.ref ar), .val (.int ln), .val (.int (5 : Int32))] [(.int (4 : Int32)), (.ref ar)])) rfl rfl (hb hby d2_31)) ?_
        show own_Go _ _ _ _ (s₁.setTop (mkF m 32 #[.val (.ref ar), .val (.int ln), .val (.int (5 : Int32))] [(.int v4)]))
        refine own_st (fun _ k => XS.bipush X0.here hx rfl (hb hby d2_32) k) ?_
        show own_Go _ _ _ _ (s₁.setTop (mkF m 34 #[.val (.ref ar), .val (.int ln), .val (.int (5 : Int32))] [(.int (13 : Int32)), (.int v4)]))
        by_cases hc27 : v4 = (13 : Int32)
        · skip
          refine own_st (fun _ k => XS.icmpNo X0.here hx rfl (hb hby d2_34) rfl (teq hc27).2 k) ?_
          show own_Go _ _ _ _ (s₁.setTop (mkF m 37 #[.val (.ref ar), .val (.int ln), .val (.int (5 : Int32))] []))
          refine own_st (fun _ k => XS.aloadN X0.here hx rfl (hb hby d2_37) rfl rfl k) ?_
          show own_Go _ _ _ _ (s₁.setTop (mkF m 38 #[.val (.ref ar), .val (.int ln), .val (.int (5 : Int32))] [(.ref ar)]))
          refine own_st (fun _ k => XS.iloadN X0.here hx rfl (hb hby d2_38) rfl k) ?_
          show own_Go _ _ _ _ (s₁.setTop (mkF m 39 #[.val (.ref ar), .val (.int ln), .val (.int (5 : Int32))] [(.int (5 : Int32)), (.ref ar)]))
          obtain ⟨cl28, Ar28, -, Sz28, Nn28, Hs28, -⟩ := id V_ar
          have hin28 : ¬ ((5 : Int32) < 0 ∨ cl28.slots.size ≤ ((5 : Int32)).toNatClampNeg) := inb_of Sz28 ⟨(by decide : ¬ ((5 : Int32) < (0 : Int32))), (by decide : (5 : Int32) < (8 : Int32))⟩
          have hat28 : cl28.slots[((5 : Int32)).toNatClampNeg]? = some (.int v5) := Hs28.at hin28 rfl
          refine own_st (X0.baloadBytes hx (j := (5 : Int32)) (v := (.int v5)) (by rw [e0]; exact Ar28.1) (State.isArrayOf_alike hZ.alike Ar28.2.1) Ar28.2.2 hin28 hat28 (g := (mkF m 39 #[.val (.ref ar), .val (.int ln), .val (.int (5 : Int32))] [(.int (5 : Int32)), (.ref ar)])) rfl rfl (hb hby d2_39)) ?_
          show own_Go _ _ _ _ (s₁.setTop (mkF m 40 #[.val (.ref ar), .val (.int ln), .val (.int (5 : Int32))] [(.int v5)]))
          refine own_st (fun _ k => XS.bipush X0.here hx rfl (hb hby d2_40) k) ?_
          show own_Go _ _ _ _ (s₁.setTop (mkF m 42 #[.val (.ref ar), .val (.int ln), .val (.int (5 : Int32))] [(.int (10 : Int32)), (.int v5)]))
          by_cases hc29 : v5 = (10 : Int32)
          · skip
            refine own_st (fun _ k => XS.icmpNo X0.here hx rfl (hb hby d2_42) rfl (teq hc29).2 k) ?_
            show own_Go _ _ _ _ (s₁.setTop (mkF m 45 #[.val (.ref ar), .val (.int ln), .val (.int (5 : Int32))] []))
            refine own_st (fun _ k => XS.iconst X0.here hx rfl (hb hby d2_45) k) ?_
            show own_Go _ _ _ _ (s₁.setTop (mkF m 46 #[.val (.ref ar), .val (.int ln), .val (.int (5 : Int32))] [(.int (1 : Int32))]))
            refine own_st (fun _ k => XS.goto X0.here hx rfl (pc0 := 46) (pc' := 50) rfl (hb hby d2_46) (by decide) (by decide) k) ?_
            show own_Go _ _ _ _ (s₁.setTop (mkF m 50 #[.val (.ref ar), .val (.int ln), .val (.int (5 : Int32))] [(.int (1 : Int32))]))
            obtain ⟨fs, hr, hrun, hended, hW, hsame⟩ := X0.leave (v := some (.int (1 : Int32))) (fun h => by rw [Bd.returns] at h; cases h)
            refine own_out (retN X0 hx (t := .boolean) Bd.returns (by simp) (hb hby d2_50) hr) ⟨hrun, hended, _, _, rfl, ?_, ⟨_, rfl⟩, hW, hsame.mono (by decide) (by decide)⟩
            show Q2_5 Z ar kk ln v0 v1 v2 v3 v4 v5 v6 v7 h0 n0 _ s₁.heap _
            have hv : own_bl ln (5 : Int32) v2 v3 v4 v5 = (1 : Int32) := by
              unfold own_bl
              rw [if_pos hc21, if_pos ⟨hc23, hc25, hc27, hc29⟩]
            exact ⟨by rw [hv], N0, e0⟩
          · skip
            refine own_st (fun _ k => XS.icmpYes X0.here hx rfl (pc0 := 42) (pc' := 49) rfl (hb hby d2_42) rfl (feq hc29).2 (by decide) (by decide) k) ?_
            show own_Go _ _ _ _ (s₁.setTop (mkF m 49 #[.val (.ref ar), .val (.int ln), .val (.int (5 : Int32))] []))
            refine own_st (fun _ k => XS.iconst X0.here hx rfl (hb hby d2_49) k) ?_
            show own_Go _ _ _ _ (s₁.setTop (mkF m 50 #[.val (.ref ar), .val (.int ln), .val (.int (5 : Int32))] [(.int (0 : Int32))]))
            obtain ⟨fs, hr, hrun, hended, hW, hsame⟩ := X0.leave (v := some (.int (0 : Int32))) (fun h => by rw [Bd.returns] at h; cases h)
            refine own_out (retN X0 hx (t := .boolean) Bd.returns (by simp) (hb hby d2_50) hr) ⟨hrun, hended, _, _, rfl, ?_, ⟨_, rfl⟩, hW, hsame.mono (by decide) (by decide)⟩
            show Q2_5 Z ar kk ln v0 v1 v2 v3 v4 v5 v6 v7 h0 n0 _ s₁.heap _
            have hv : own_bl ln (5 : Int32) v2 v3 v4 v5 = (0 : Int32) := by
              unfold own_bl
              rw [if_pos hc21, if_neg (fun q => hc29 q.2.2.2)]
            exact ⟨by rw [hv], N0, e0⟩
        · skip
          refine own_st (fun _ k => XS.icmpYes X0.here hx rfl (pc0 := 34) (pc' := 49) rfl (hb hby d2_34) rfl (feq hc27).2 (by decide) (by decide) k) ?_
          show own_Go _ _ _ _ (s₁.setTop (mkF m 49 #[.val (.ref ar), .val (.int ln), .val (.int (5 : Int32))] []))
          refine own_st (fun _ k => XS.iconst X0.here hx rfl (hb hby d2_49) k) ?_
          show own_Go _ _ _ _ (s₁.setTop (mkF m 50 #[.val (.ref ar), .val (.int ln), .val (.int (5 : Int32))] [(.int (0 : Int32))]))
          obtain ⟨fs, hr, hrun, hended, hW, hsame⟩ := X0.leave (v := some (.int (0 : Int32))) (fun h => by rw [Bd.returns] at h; cases h)
          refine own_out (retN X0 hx (t := .boolean) Bd.returns (by simp) (hb hby d2_50) hr) ⟨hrun, hended, _, _, rfl, ?_, ⟨_, rfl⟩, hW, hsame.mono (by decide) (by decide)⟩
          show Q2_5 Z ar kk ln v0 v1 v2 v3 v4 v5 v6 v7 h0 n0 _ s₁.heap _
          have hv : own_bl ln (5 : Int32) v2 v3 v4 v5 = (0 : Int32) := by
            unfold own_bl
            rw [if_pos hc21, if_neg (fun q => hc27 q.2.2.1)]
          exact ⟨by rw [hv], N0, e0⟩
      · skip
        refine own_st (fun _ k => XS.icmpYes X0.here hx rfl (pc0 := 24) (pc' := 49) rfl (hb hby d2_24) rfl (feq hc25).2 (by decide) (by decide) k) ?_
        show own_Go _ _ _ _ (s₁.setTop (mkF m 49 #[.val (.ref ar), .val (.int ln), .val (.int (5 : Int32))] []))
        refine own_st (fun _ k => XS.iconst X0.here hx rfl (hb hby d2_49) k) ?_
        show own_Go _ _ _ _ (s₁.setTop (mkF m 50 #[.val (.ref ar), .val (.int ln), .val (.int (5 : Int32))] [(.int (0 : Int32))]))
        obtain ⟨fs, hr, hrun, hended, hW, hsame⟩ := X0.leave (v := some (.int (0 : Int32))) (fun h => by rw [Bd.returns] at h; cases h)
        refine own_out (retN X0 hx (t := .boolean) Bd.returns (by simp) (hb hby d2_50) hr) ⟨hrun, hended, _, _, rfl, ?_, ⟨_, rfl⟩, hW, hsame.mono (by decide) (by decide)⟩
        show Q2_5 Z ar kk ln v0 v1 v2 v3 v4 v5 v6 v7 h0 n0 _ s₁.heap _
        have hv : own_bl ln (5 : Int32) v2 v3 v4 v5 = (0 : Int32) := by
          unfold own_bl
          rw [if_pos hc21, if_neg (fun q => hc25 q.2.1)]
        exact ⟨by rw [hv], N0, e0⟩
    · skip
      refine own_st (fun _ k => XS.icmpYes X0.here hx rfl (pc0 := 14) (pc' := 49) rfl (hb hby d2_14) rfl (feq hc23).2 (by decide) (by decide) k) ?_
      show own_Go _ _ _ _ (s₁.setTop (mkF m 49 #[.val (.ref ar), .val (.int ln), .val (.int (5 : Int32))] []))
      refine own_st (fun _ k => XS.iconst X0.here hx rfl (hb hby d2_49) k) ?_
      show own_Go _ _ _ _ (s₁.setTop (mkF m 50 #[.val (.ref ar), .val (.int ln), .val (.int (5 : Int32))] [(.int (0 : Int32))]))
      obtain ⟨fs, hr, hrun, hended, hW, hsame⟩ := X0.leave (v := some (.int (0 : Int32))) (fun h => by rw [Bd.returns] at h; cases h)
      refine own_out (retN X0 hx (t := .boolean) Bd.returns (by simp) (hb hby d2_50) hr) ⟨hrun, hended, _, _, rfl, ?_, ⟨_, rfl⟩, hW, hsame.mono (by decide) (by decide)⟩
      show Q2_5 Z ar kk ln v0 v1 v2 v3 v4 v5 v6 v7 h0 n0 _ s₁.heap _
      have hv : own_bl ln (5 : Int32) v2 v3 v4 v5 = (0 : Int32) := by
        unfold own_bl
        rw [if_pos hc21, if_neg (fun q => hc23 q.1)]
      exact ⟨by rw [hv], N0, e0⟩
  · skip
    refine own_st (fun _ k => XS.icmpNo X0.here hx rfl (hb hby d2_2) rfl (flt hc21).1 k) ?_
    show own_Go _ _ _ _ (s₁.setTop (mkF m 5 #[.val (.ref ar), .val (.int ln), .val (.int (5 : Int32))] []))
    refine own_st (fun _ k => XS.iconst X0.here hx rfl (hb hby d2_5) k) ?_
    show own_Go _ _ _ _ (s₁.setTop (mkF m 6 #[.val (.ref ar), .val (.int ln), .val (.int (5 : Int32))] [(.int (0 : Int32))]))
    obtain ⟨fs, hr, hrun, hended, hW, hsame⟩ := X0.leave (v := some (.int (0 : Int32))) (fun h => by rw [Bd.returns] at h; cases h)
    refine own_out (retN X0 hx (t := .boolean) Bd.returns (by simp) (hb hby d2_6) hr) ⟨hrun, hended, _, _, rfl, ?_, ⟨_, rfl⟩, hW, hsame.mono (by decide) (by decide)⟩
    show Q2_5 Z ar kk ln v0 v1 v2 v3 v4 v5 v6 v7 h0 n0 _ s₁.heap _
    have hv : own_bl ln (5 : Int32) v2 v3 v4 v5 = (0 : Int32) := by
      unfold own_bl
      rw [if_neg hc21]
    exact ⟨by rw [hv], N0, e0⟩
def Q2_6 (Z : State) (ar : Addr) (kk : ClassId) (ln : Int32) (v0 : Int32) (v1 : Int32) (v2 : Int32) (v3 : Int32) (v4 : Int32) (v5 : Int32) (v6 : Int32) (v7 : Int32) (h0 : Heap) (n0 : Nat) (v : Option Value) (h : Heap) (L : List Loc) : Prop := v = some (.int (own_bl ln (6 : Int32) v3 v4 v5 v6)) ∧ Fr n0 L ∧ h = h0
theorem ef_2_6 (m : MethodId) (x0 : Addr) (x1 : Int32) (x2 : Int32) : entryFrame m #[(.ref x0), (.int x1), (.int x2)] 3 = mkF m 0 #[.val (.ref x0), .val (.int x1), .val (.int x2)] [] := by first | (simp [entryFrame, mkF, argsToLocals, Value.category]; done) | rfl
set_option maxRecDepth 65536 in
set_option maxHeartbeats 40000000 in
theorem rm2_6 (l : Launch) (Z : State) (a0 : Array Value) (hw : ∀ d ∈ tables_1, d.before a0 Z = true) (ws : List Jvm.Cond) (ar : Addr) (kk : ClassId) (ln : Int32) (v0 : Int32) (v1 : Int32) (v2 : Int32) (v3 : Int32) (v4 : Int32) (v5 : Int32) (v6 : Int32) (v7 : Int32) (h0 : Heap) (n0 : Nat) (Z0 : n0 ≤ h0.size) (V_ar : Arv Z h0 ar kk .byte (8 : Int32) [.int v0, .int v1, .int v2, .int v3, .int v4, .int v5, .int v6, .int v7] (.int (0 : Int32))) :
    MetFree l (⟨"HttpHeadEndPinLaw", "blankLineEndsAt", "([BII)Z"⟩ : MethodName) (head1 (Jvm.Cond.code (⟨"HttpHeadEndPinLaw", "blankLineEndsAt", "([BII)Z"⟩ : MethodName) method_3_code 3 (some .boolean) :: ws) ({ frames := 0, cells := 0, slots := 0, locals := 0 } : Room)) (fun a U => a = #[(.ref ar), (.int ln), (.int (6 : Int32))] ∧ Z.Warmed39 U.vm ∧ U.heap = h0) (fun _ _ _ _ _ => True) (fun _ U o U' => ∃ v L, o = .returned v ∧ Q2_6 Z ar kk ln v0 v1 v2 v3 v4 v5 v6 v7 h0 n0 v U'.heap L ∧ FrameEnd U o U' L ({ frames := 0, cells := 0, slots := 0, locals := 0 } : Room).cells ({ frames := 0, cells := 0, slots := 0, locals := 0 } : Room).slots) := by
  refine MetFree.of_bodySF (plainFor_of_name own_pn0) hisR ?_
  intro p e s m args below meth c s₁ Bd hml0 hP hK
  obtain ⟨rfl, hZ, hh⟩ := hP
  have hx := Bd.exec
  have hby := Bd.bytes
  have hml : c.maxLocals = 3 := hml0
  have hown : s.vm.findClass "HttpHeadEndPinLaw" = some m.cls := findClass_of_methodNamed Bd.named
  have hnm := (name_of_methodNamed Bd.named Bd.method).1
  have X0 : Stand p l e ({ frames := 0, cells := 0, slots := 0, locals := 0 } : Room) s m #[(.ref ar), (.int ln), (.int (6 : Int32))] below meth c s₁ [] 0 0 := Stand.of_body Bd
  have e0 : s₁.heap = h0 := by rw [← hh, Bd.state]; rfl
  have N0 := Fr.nil n0
  refine own_in ?_
  refine own_st (fun _ k => castTop (ef_2_6 m ar ln (6 : Int32)) k) ?_
  have K0 : Keep h0 h0 [] := Keep.refl h0 []
  show own_Go _ _ _ _ (s₁.setTop (mkF m 0 #[.val (.ref ar), .val (.int ln), .val (.int (6 : Int32))] []))
  refine own_st (fun _ k => XS.iloadN X0.here hx rfl (hb hby d2_0) rfl k) ?_
  show own_Go _ _ _ _ (s₁.setTop (mkF m 1 #[.val (.ref ar), .val (.int ln), .val (.int (6 : Int32))] [(.int (6 : Int32))]))
  refine own_st (fun _ k => XS.iloadN X0.here hx rfl (hb hby d2_1) rfl k) ?_
  show own_Go _ _ _ _ (s₁.setTop (mkF m 2 #[.val (.ref ar), .val (.int ln), .val (.int (6 : Int32))] [(.int ln), (.int (6 : Int32))]))
  by_cases hc30 : (6 : Int32) < ln
  · skip
    refine own_st (fun _ k => XS.icmpYes X0.here hx rfl (pc0 := 2) (pc' := 7) rfl (hb hby d2_2) rfl (tlt hc30).1 (by decide) (by decide) k) ?_
    show own_Go _ _ _ _ (s₁.setTop (mkF m 7 #[.val (.ref ar), .val (.int ln), .val (.int (6 : Int32))] []))
    refine own_st (fun _ k => XS.aloadN X0.here hx rfl (hb hby d2_7) rfl rfl k) ?_
    show own_Go _ _ _ _ (s₁.setTop (mkF m 8 #[.val (.ref ar), .val (.int ln), .val (.int (6 : Int32))] [(.ref ar)]))
    refine own_st (fun _ k => XS.iloadN X0.here hx rfl (hb hby d2_8) rfl k) ?_
    show own_Go _ _ _ _ (s₁.setTop (mkF m 9 #[.val (.ref ar), .val (.int ln), .val (.int (6 : Int32))] [(.int (6 : Int32)), (.ref ar)]))
    refine own_st (fun _ k => XS.iconst X0.here hx rfl (hb hby d2_9) k) ?_
    show own_Go _ _ _ _ (s₁.setTop (mkF m 10 #[.val (.ref ar), .val (.int ln), .val (.int (6 : Int32))] [(.int (3 : Int32)), (.int (6 : Int32)), (.ref ar)]))
    refine own_st (fun _ k => XS.isub X0.here hx rfl (hb hby d2_10) rfl k) ?_
    show own_Go _ _ _ _ (s₁.setTop (mkF m 11 #[.val (.ref ar), .val (.int ln), .val (.int (6 : Int32))] [(.int (3 : Int32)), (.ref ar)]))
    obtain ⟨cl31, Ar31, -, Sz31, Nn31, Hs31, -⟩ := id V_ar
    have hin31 : ¬ ((3 : Int32) < 0 ∨ cl31.slots.size ≤ ((3 : Int32)).toNatClampNeg) := inb_of Sz31 ⟨(by decide : ¬ ((3 : Int32) < (0 : Int32))), (by decide : (3 : Int32) < (8 : Int32))⟩
    have hat31 : cl31.slots[((3 : Int32)).toNatClampNeg]? = some (.int v3) := Hs31.at hin31 rfl
    refine own_st (X0.baloadBytes hx (j := (3 : Int32)) (v := (.int v3)) (by rw [e0]; exact Ar31.1) (State.isArrayOf_alike hZ.alike Ar31.2.1) Ar31.2.2 hin31 hat31 (g := (mkF m 11 #[.val (.ref ar), .val (.int ln), .val (.int (6 : Int32))] [(.int (3 : Int32)), (.ref ar)])) rfl rfl (hb hby d2_11)) ?_
    show own_Go _ _ _ _ (s₁.setTop (mkF m 12 #[.val (.ref ar), .val (.int ln), .val (.int (6 : Int32))] [(.int v3)]))
    refine own_st (fun _ k => XS.bipush X0.here hx rfl (hb hby d2_12) k) ?_
    show own_Go _ _ _ _ (s₁.setTop (mkF m 14 #[.val (.ref ar), .val (.int ln), .val (.int (6 : Int32))] [(.int (13 : Int32)), (.int v3)]))
    by_cases hc32 : v3 = (13 : Int32)
    · skip
      refine own_st (fun _ k => XS.icmpNo X0.here hx rfl (hb hby d2_14) rfl (teq hc32).2 k) ?_
      show own_Go _ _ _ _ (s₁.setTop (mkF m 17 #[.val (.ref ar), .val (.int ln), .val (.int (6 : Int32))] []))
      refine own_st (fun _ k => XS.aloadN X0.here hx rfl (hb hby d2_17) rfl rfl k) ?_
      show own_Go _ _ _ _ (s₁.setTop (mkF m 18 #[.val (.ref ar), .val (.int ln), .val (.int (6 : Int32))] [(.ref ar)]))
      refine own_st (fun _ k => XS.iloadN X0.here hx rfl (hb hby d2_18) rfl k) ?_
      show own_Go _ _ _ _ (s₁.setTop (mkF m 19 #[.val (.ref ar), .val (.int ln), .val (.int (6 : Int32))] [(.int (6 : Int32)), (.ref ar)]))
      refine own_st (fun _ k => XS.iconst X0.here hx rfl (hb hby d2_19) k) ?_
      show own_Go _ _ _ _ (s₁.setTop (mkF m 20 #[.val (.ref ar), .val (.int ln), .val (.int (6 : Int32))] [(.int (2 : Int32)), (.int (6 : Int32)), (.ref ar)]))
      refine own_st (fun _ k => XS.isub X0.here hx rfl (hb hby d2_20) rfl k) ?_
      show own_Go _ _ _ _ (s₁.setTop (mkF m 21 #[.val (.ref ar), .val (.int ln), .val (.int (6 : Int32))] [(.int (4 : Int32)), (.ref ar)]))
      obtain ⟨cl33, Ar33, -, Sz33, Nn33, Hs33, -⟩ := id V_ar
      have hin33 : ¬ ((4 : Int32) < 0 ∨ cl33.slots.size ≤ ((4 : Int32)).toNatClampNeg) := inb_of Sz33 ⟨(by decide : ¬ ((4 : Int32) < (0 : Int32))), (by decide : (4 : Int32) < (8 : Int32))⟩
      have hat33 : cl33.slots[((4 : Int32)).toNatClampNeg]? = some (.int v4) := Hs33.at hin33 rfl
      refine own_st (X0.baloadBytes hx (j := (4 : Int32)) (v := (.int v4)) (by rw [e0]; exact Ar33.1) (State.isArrayOf_alike hZ.alike Ar33.2.1) Ar33.2.2 hin33 hat33 (g := (mkF m 21 #[.val (.ref ar), .val (.int ln), .val (.int (6 : Int32))] [(.int (4 : Int32)), (.ref ar)])) rfl rfl (hb hby d2_21)) ?_
      show own_Go _ _ _ _ (s₁.setTop (mkF m 22 #[.val (.ref ar), .val (.int ln), .val (.int (6 : Int32))] [(.int v4)]))
      refine own_st (fun _ k => XS.bipush X0.here hx rfl (hb hby d2_22) k) ?_
      show own_Go _ _ _ _ (s₁.setTop (mkF m 24 #[.val (.ref ar), .val (.int ln), .val (.int (6 : Int32))] [(.int (10 : Int32)), (.int v4)]))
      by_cases hc34 : v4 = (10 : Int32)
      · skip
        refine own_st (fun _ k => XS.icmpNo X0.here hx rfl (hb hby d2_24) rfl (teq hc34).2 k) ?_
        show own_Go _ _ _ _ (s₁.setTop (mkF m 27 #[.val (.ref ar), .val (.int ln), .val (.int (6 : Int32))] []))
        refine own_st (fun _ k => XS.aloadN X0.here hx rfl (hb hby d2_27) rfl rfl k) ?_
        show own_Go _ _ _ _ (s₁.setTop (mkF m 28 #[.val (.ref ar), .val (.int ln), .val (.int (6 : Int32))] [(.ref ar)]))
        refine own_st (fun _ k => XS.iloadN X0.here hx rfl (hb hby d2_28) rfl k) ?_
        show own_Go _ _ _ _ (s₁.setTop (mkF m 29 #[.val (.ref ar), .val (.int ln), .val (.int (6 : Int32))] [(.int (6 : Int32)), (.ref ar)]))
        refine own_st (fun _ k => XS.iconst X0.here hx rfl (hb hby d2_29) k) ?_
        show own_Go _ _ _ _ (s₁.setTop (mkF m 30 #[.val (.ref ar), .val (.int ln), .val (.int (6 : Int32))] [(.int (1 : Int32)), (.int (6 : Int32)), (.ref ar)]))
        refine own_st (fun _ k => XS.isub X0.here hx rfl (hb hby d2_30) rfl k) ?_
        show own_Go _ _ _ _ (s₁.setTop (mkF m 31 #[.val (.ref ar), .val (.int ln), .val (.int (6 : Int32))] [(.int (5 : Int32)), (.ref ar)]))
        obtain ⟨cl35, Ar35, -, Sz35, Nn35, Hs35, -⟩ := id V_ar
        have hin35 : ¬ ((5 : Int32) < 0 ∨ cl35.slots.size ≤ ((5 : Int32)).toNatClampNeg) := inb_of Sz35 ⟨(by decide : ¬ ((5 : Int32) < (0 : Int32))), (by decide : (5 : Int32) < (8 : Int32))⟩
        have hat35 : cl35.slots[((5 : Int32)).toNatClampNeg]? = some (.int v5) := Hs35.at hin35 rfl
        refine own_st (X0.baloadBytes hx (j := (5 : Int32)) (v := (.int v5)) (by rw [e0]; exact Ar35.1) (State.isArrayOf_alike hZ.alike Ar35.2.1) Ar35.2.2 hin35 hat35 (g := (mkF m 31 #[.val (.ref ar), .val (.int ln), .val (.int (6 : Int32))] [(.int (5 : Int32)), (.ref ar)])) rfl rfl (hb hby d2_31)) ?_
        show own_Go _ _ _ _ (s₁.setTop (mkF m 32 #[.val (.ref ar), .val (.int ln), .val (.int (6 : Int32))] [(.int v5)]))
        refine own_st (fun _ k => XS.bipush X0.here hx rfl (hb hby d2_32) k) ?_
        show own_Go _ _ _ _ (s₁.setTop (mkF m 34 #[.val (.ref ar), .val (.int ln), .val (.int (6 : Int32))] [(.int (13 : Int32)), (.int v5)]))
        by_cases hc36 : v5 = (13 : Int32)
        · skip
          refine own_st (fun _ k => XS.icmpNo X0.here hx rfl (hb hby d2_34) rfl (teq hc36).2 k) ?_
          show own_Go _ _ _ _ (s₁.setTop (mkF m 37 #[.val (.ref ar), .val (.int ln), .val (.int (6 : Int32))] []))
          refine own_st (fun _ k => XS.aloadN X0.here hx rfl (hb hby d2_37) rfl rfl k) ?_
          show own_Go _ _ _ _ (s₁.setTop (mkF m 38 #[.val (.ref ar), .val (.int ln), .val (.int (6 : Int32))] [(.ref ar)]))
          refine own_st (fun _ k => XS.iloadN X0.here hx rfl (hb hby d2_38) rfl k) ?_
          show own_Go _ _ _ _ (s₁.setTop (mkF m 39 #[.val (.ref ar), .val (.int ln), .val (.int (6 : Int32))] [(.int (6 : Int32)), (.ref ar)]))
          obtain ⟨cl37, Ar37, -, Sz37, Nn37, Hs37, -⟩ := id V_ar
          have hin37 : ¬ ((6 : Int32) < 0 ∨ cl37.slots.size ≤ ((6 : Int32)).toNatClampNeg) := inb_of Sz37 ⟨(by decide : ¬ ((6 : Int32) < (0 : Int32))), (by decide : (6 : Int32) < (8 : Int32))⟩
          have hat37 : cl37.slots[((6 : Int32)).toNatClampNeg]? = some (.int v6) := Hs37.at hin37 rfl
          refine own_st (X0.baloadBytes hx (j := (6 : Int32)) (v := (.int v6)) (by rw [e0]; exact Ar37.1) (State.isArrayOf_alike hZ.alike Ar37.2.1) Ar37.2.2 hin37 hat37 (g := (mkF m 39 #[.val (.ref ar), .val (.int ln), .val (.int (6 : Int32))] [(.int (6 : Int32)), (.ref ar)])) rfl rfl (hb hby d2_39)) ?_
          show own_Go _ _ _ _ (s₁.setTop (mkF m 40 #[.val (.ref ar), .val (.int ln), .val (.int (6 : Int32))] [(.int v6)]))
          refine own_st (fun _ k => XS.bipush X0.here hx rfl (hb hby d2_40) k) ?_
          show own_Go _ _ _ _ (s₁.setTop (mkF m 42 #[.val (.ref ar), .val (.int ln), .val (.int (6 : Int32))] [(.int (10 : Int32)), (.int v6)]))
          by_cases hc38 : v6 = (10 : Int32)
          · skip
            refine own_st (fun _ k => XS.icmpNo X0.here hx rfl (hb hby d2_42) rfl (teq hc38).2 k) ?_
            show own_Go _ _ _ _ (s₁.setTop (mkF m 45 #[.val (.ref ar), .val (.int ln), .val (.int (6 : Int32))] []))
            refine own_st (fun _ k => XS.iconst X0.here hx rfl (hb hby d2_45) k) ?_
            show own_Go _ _ _ _ (s₁.setTop (mkF m 46 #[.val (.ref ar), .val (.int ln), .val (.int (6 : Int32))] [(.int (1 : Int32))]))
            refine own_st (fun _ k => XS.goto X0.here hx rfl (pc0 := 46) (pc' := 50) rfl (hb hby d2_46) (by decide) (by decide) k) ?_
            show own_Go _ _ _ _ (s₁.setTop (mkF m 50 #[.val (.ref ar), .val (.int ln), .val (.int (6 : Int32))] [(.int (1 : Int32))]))
            obtain ⟨fs, hr, hrun, hended, hW, hsame⟩ := X0.leave (v := some (.int (1 : Int32))) (fun h => by rw [Bd.returns] at h; cases h)
            refine own_out (retN X0 hx (t := .boolean) Bd.returns (by simp) (hb hby d2_50) hr) ⟨hrun, hended, _, _, rfl, ?_, ⟨_, rfl⟩, hW, hsame.mono (by decide) (by decide)⟩
            show Q2_6 Z ar kk ln v0 v1 v2 v3 v4 v5 v6 v7 h0 n0 _ s₁.heap _
            have hv : own_bl ln (6 : Int32) v3 v4 v5 v6 = (1 : Int32) := by
              unfold own_bl
              rw [if_pos hc30, if_pos ⟨hc32, hc34, hc36, hc38⟩]
            exact ⟨by rw [hv], N0, e0⟩
          · skip
            refine own_st (fun _ k => XS.icmpYes X0.here hx rfl (pc0 := 42) (pc' := 49) rfl (hb hby d2_42) rfl (feq hc38).2 (by decide) (by decide) k) ?_
            show own_Go _ _ _ _ (s₁.setTop (mkF m 49 #[.val (.ref ar), .val (.int ln), .val (.int (6 : Int32))] []))
            refine own_st (fun _ k => XS.iconst X0.here hx rfl (hb hby d2_49) k) ?_
            show own_Go _ _ _ _ (s₁.setTop (mkF m 50 #[.val (.ref ar), .val (.int ln), .val (.int (6 : Int32))] [(.int (0 : Int32))]))
            obtain ⟨fs, hr, hrun, hended, hW, hsame⟩ := X0.leave (v := some (.int (0 : Int32))) (fun h => by rw [Bd.returns] at h; cases h)
            refine own_out (retN X0 hx (t := .boolean) Bd.returns (by simp) (hb hby d2_50) hr) ⟨hrun, hended, _, _, rfl, ?_, ⟨_, rfl⟩, hW, hsame.mono (by decide) (by decide)⟩
            show Q2_6 Z ar kk ln v0 v1 v2 v3 v4 v5 v6 v7 h0 n0 _ s₁.heap _
            have hv : own_bl ln (6 : Int32) v3 v4 v5 v6 = (0 : Int32) := by
              unfold own_bl
              rw [if_pos hc30, if_neg (fun q => hc38 q.2.2.2)]
            exact ⟨by rw [hv], N0, e0⟩
        · skip
          refine own_st (fun _ k => XS.icmpYes X0.here hx rfl (pc0 := 34) (pc' := 49) rfl (hb hby d2_34) rfl (feq hc36).2 (by decide) (by decide) k) ?_
          show own_Go _ _ _ _ (s₁.setTop (mkF m 49 #[.val (.ref ar), .val (.int ln), .val (.int (6 : Int32))] []))
          refine own_st (fun _ k => XS.iconst X0.here hx rfl (hb hby d2_49) k) ?_
          show own_Go _ _ _ _ (s₁.setTop (mkF m 50 #[.val (.ref ar), .val (.int ln), .val (.int (6 : Int32))] [(.int (0 : Int32))]))
          obtain ⟨fs, hr, hrun, hended, hW, hsame⟩ := X0.leave (v := some (.int (0 : Int32))) (fun h => by rw [Bd.returns] at h; cases h)
          refine own_out (retN X0 hx (t := .boolean) Bd.returns (by simp) (hb hby d2_50) hr) ⟨hrun, hended, _, _, rfl, ?_, ⟨_, rfl⟩, hW, hsame.mono (by decide) (by decide)⟩
          show Q2_6 Z ar kk ln v0 v1 v2 v3 v4 v5 v6 v7 h0 n0 _ s₁.heap _
          have hv : own_bl ln (6 : Int32) v3 v4 v5 v6 = (0 : Int32) := by
            unfold own_bl
            rw [if_pos hc30, if_neg (fun q => hc36 q.2.2.1)]
          exact ⟨by rw [hv], N0, e0⟩
      · skip
        refine own_st (fun _ k => XS.icmpYes X0.here hx rfl (pc0 := 24) (pc' := 49) rfl (hb hby d2_24) rfl (feq hc34).2 (by decide) (by decide) k) ?_
        show own_Go _ _ _ _ (s₁.setTop (mkF m 49 #[.val (.ref ar), .val (.int ln), .val (.int (6 : Int32))] []))
        refine own_st (fun _ k => XS.iconst X0.here hx rfl (hb hby d2_49) k) ?_
        show own_Go _ _ _ _ (s₁.setTop (mkF m 50 #[.val (.ref ar), .val (.int ln), .val (.int (6 : Int32))] [(.int (0 : Int32))]))
        obtain ⟨fs, hr, hrun, hended, hW, hsame⟩ := X0.leave (v := some (.int (0 : Int32))) (fun h => by rw [Bd.returns] at h; cases h)
        refine own_out (retN X0 hx (t := .boolean) Bd.returns (by simp) (hb hby d2_50) hr) ⟨hrun, hended, _, _, rfl, ?_, ⟨_, rfl⟩, hW, hsame.mono (by decide) (by decide)⟩
        show Q2_6 Z ar kk ln v0 v1 v2 v3 v4 v5 v6 v7 h0 n0 _ s₁.heap _
        have hv : own_bl ln (6 : Int32) v3 v4 v5 v6 = (0 : Int32) := by
          unfold own_bl
          rw [if_pos hc30, if_neg (fun q => hc34 q.2.1)]
        exact ⟨by rw [hv], N0, e0⟩
    · skip
      refine own_st (fun _ k => XS.icmpYes X0.here hx rfl (pc0 := 14) (pc' := 49) rfl (hb hby d2_14) rfl (feq hc32).2 (by decide) (by decide) k) ?_
      show own_Go _ _ _ _ (s₁.setTop (mkF m 49 #[.val (.ref ar), .val (.int ln), .val (.int (6 : Int32))] []))
      refine own_st (fun _ k => XS.iconst X0.here hx rfl (hb hby d2_49) k) ?_
      show own_Go _ _ _ _ (s₁.setTop (mkF m 50 #[.val (.ref ar), .val (.int ln), .val (.int (6 : Int32))] [(.int (0 : Int32))]))
      obtain ⟨fs, hr, hrun, hended, hW, hsame⟩ := X0.leave (v := some (.int (0 : Int32))) (fun h => by rw [Bd.returns] at h; cases h)
      refine own_out (retN X0 hx (t := .boolean) Bd.returns (by simp) (hb hby d2_50) hr) ⟨hrun, hended, _, _, rfl, ?_, ⟨_, rfl⟩, hW, hsame.mono (by decide) (by decide)⟩
      show Q2_6 Z ar kk ln v0 v1 v2 v3 v4 v5 v6 v7 h0 n0 _ s₁.heap _
      have hv : own_bl ln (6 : Int32) v3 v4 v5 v6 = (0 : Int32) := by
        unfold own_bl
        rw [if_pos hc30, if_neg (fun q => hc32 q.1)]
      exact ⟨by rw [hv], N0, e0⟩
  · skip
    refine own_st (fun _ k => XS.icmpNo X0.here hx rfl (hb hby d2_2) rfl (flt hc30).1 k) ?_
    show own_Go _ _ _ _ (s₁.setTop (mkF m 5 #[.val (.ref ar), .val (.int ln), .val (.int (6 : Int32))] []))
    refine own_st (fun _ k => XS.iconst X0.here hx rfl (hb hby d2_5) k) ?_
    show own_Go _ _ _ _ (s₁.setTop (mkF m 6 #[.val (.ref ar), .val (.int ln), .val (.int (6 : Int32))] [(.int (0 : Int32))]))
    obtain ⟨fs, hr, hrun, hended, hW, hsame⟩ := X0.leave (v := some (.int (0 : Int32))) (fun h => by rw [Bd.returns] at h; cases h)
    refine own_out (retN X0 hx (t := .boolean) Bd.returns (by simp) (hb hby d2_6) hr) ⟨hrun, hended, _, _, rfl, ?_, ⟨_, rfl⟩, hW, hsame.mono (by decide) (by decide)⟩
    show Q2_6 Z ar kk ln v0 v1 v2 v3 v4 v5 v6 v7 h0 n0 _ s₁.heap _
    have hv : own_bl ln (6 : Int32) v3 v4 v5 v6 = (0 : Int32) := by
      unfold own_bl
      rw [if_neg hc30]
    exact ⟨by rw [hv], N0, e0⟩
def Q2_7 (Z : State) (ar : Addr) (kk : ClassId) (ln : Int32) (v0 : Int32) (v1 : Int32) (v2 : Int32) (v3 : Int32) (v4 : Int32) (v5 : Int32) (v6 : Int32) (v7 : Int32) (h0 : Heap) (n0 : Nat) (v : Option Value) (h : Heap) (L : List Loc) : Prop := v = some (.int (own_bl ln (7 : Int32) v4 v5 v6 v7)) ∧ Fr n0 L ∧ h = h0
theorem ef_2_7 (m : MethodId) (x0 : Addr) (x1 : Int32) (x2 : Int32) : entryFrame m #[(.ref x0), (.int x1), (.int x2)] 3 = mkF m 0 #[.val (.ref x0), .val (.int x1), .val (.int x2)] [] := by first | (simp [entryFrame, mkF, argsToLocals, Value.category]; done) | rfl
set_option maxRecDepth 65536 in
set_option maxHeartbeats 40000000 in
theorem rm2_7 (l : Launch) (Z : State) (a0 : Array Value) (hw : ∀ d ∈ tables_1, d.before a0 Z = true) (ws : List Jvm.Cond) (ar : Addr) (kk : ClassId) (ln : Int32) (v0 : Int32) (v1 : Int32) (v2 : Int32) (v3 : Int32) (v4 : Int32) (v5 : Int32) (v6 : Int32) (v7 : Int32) (h0 : Heap) (n0 : Nat) (Z0 : n0 ≤ h0.size) (V_ar : Arv Z h0 ar kk .byte (8 : Int32) [.int v0, .int v1, .int v2, .int v3, .int v4, .int v5, .int v6, .int v7] (.int (0 : Int32))) :
    MetFree l (⟨"HttpHeadEndPinLaw", "blankLineEndsAt", "([BII)Z"⟩ : MethodName) (head1 (Jvm.Cond.code (⟨"HttpHeadEndPinLaw", "blankLineEndsAt", "([BII)Z"⟩ : MethodName) method_3_code 3 (some .boolean) :: ws) ({ frames := 0, cells := 0, slots := 0, locals := 0 } : Room)) (fun a U => a = #[(.ref ar), (.int ln), (.int (7 : Int32))] ∧ Z.Warmed39 U.vm ∧ U.heap = h0) (fun _ _ _ _ _ => True) (fun _ U o U' => ∃ v L, o = .returned v ∧ Q2_7 Z ar kk ln v0 v1 v2 v3 v4 v5 v6 v7 h0 n0 v U'.heap L ∧ FrameEnd U o U' L ({ frames := 0, cells := 0, slots := 0, locals := 0 } : Room).cells ({ frames := 0, cells := 0, slots := 0, locals := 0 } : Room).slots) := by
  refine MetFree.of_bodySF (plainFor_of_name own_pn0) hisR ?_
  intro p e s m args below meth c s₁ Bd hml0 hP hK
  obtain ⟨rfl, hZ, hh⟩ := hP
  have hx := Bd.exec
  have hby := Bd.bytes
  have hml : c.maxLocals = 3 := hml0
  have hown : s.vm.findClass "HttpHeadEndPinLaw" = some m.cls := findClass_of_methodNamed Bd.named
  have hnm := (name_of_methodNamed Bd.named Bd.method).1
  have X0 : Stand p l e ({ frames := 0, cells := 0, slots := 0, locals := 0 } : Room) s m #[(.ref ar), (.int ln), (.int (7 : Int32))] below meth c s₁ [] 0 0 := Stand.of_body Bd
  have e0 : s₁.heap = h0 := by rw [← hh, Bd.state]; rfl
  have N0 := Fr.nil n0
  refine own_in ?_
  refine own_st (fun _ k => castTop (ef_2_7 m ar ln (7 : Int32)) k) ?_
  have K0 : Keep h0 h0 [] := Keep.refl h0 []
  show own_Go _ _ _ _ (s₁.setTop (mkF m 0 #[.val (.ref ar), .val (.int ln), .val (.int (7 : Int32))] []))
  refine own_st (fun _ k => XS.iloadN X0.here hx rfl (hb hby d2_0) rfl k) ?_
  show own_Go _ _ _ _ (s₁.setTop (mkF m 1 #[.val (.ref ar), .val (.int ln), .val (.int (7 : Int32))] [(.int (7 : Int32))]))
  refine own_st (fun _ k => XS.iloadN X0.here hx rfl (hb hby d2_1) rfl k) ?_
  show own_Go _ _ _ _ (s₁.setTop (mkF m 2 #[.val (.ref ar), .val (.int ln), .val (.int (7 : Int32))] [(.int ln), (.int (7 : Int32))]))
  by_cases hc39 : (7 : Int32) < ln
  · skip
    refine own_st (fun _ k => XS.icmpYes X0.here hx rfl (pc0 := 2) (pc' := 7) rfl (hb hby d2_2) rfl (tlt hc39).1 (by decide) (by decide) k) ?_
    show own_Go _ _ _ _ (s₁.setTop (mkF m 7 #[.val (.ref ar), .val (.int ln), .val (.int (7 : Int32))] []))
    refine own_st (fun _ k => XS.aloadN X0.here hx rfl (hb hby d2_7) rfl rfl k) ?_
    show own_Go _ _ _ _ (s₁.setTop (mkF m 8 #[.val (.ref ar), .val (.int ln), .val (.int (7 : Int32))] [(.ref ar)]))
    refine own_st (fun _ k => XS.iloadN X0.here hx rfl (hb hby d2_8) rfl k) ?_
    show own_Go _ _ _ _ (s₁.setTop (mkF m 9 #[.val (.ref ar), .val (.int ln), .val (.int (7 : Int32))] [(.int (7 : Int32)), (.ref ar)]))
    refine own_st (fun _ k => XS.iconst X0.here hx rfl (hb hby d2_9) k) ?_
    show own_Go _ _ _ _ (s₁.setTop (mkF m 10 #[.val (.ref ar), .val (.int ln), .val (.int (7 : Int32))] [(.int (3 : Int32)), (.int (7 : Int32)), (.ref ar)]))
    refine own_st (fun _ k => XS.isub X0.here hx rfl (hb hby d2_10) rfl k) ?_
    show own_Go _ _ _ _ (s₁.setTop (mkF m 11 #[.val (.ref ar), .val (.int ln), .val (.int (7 : Int32))] [(.int (4 : Int32)), (.ref ar)]))
    obtain ⟨cl40, Ar40, -, Sz40, Nn40, Hs40, -⟩ := id V_ar
    have hin40 : ¬ ((4 : Int32) < 0 ∨ cl40.slots.size ≤ ((4 : Int32)).toNatClampNeg) := inb_of Sz40 ⟨(by decide : ¬ ((4 : Int32) < (0 : Int32))), (by decide : (4 : Int32) < (8 : Int32))⟩
    have hat40 : cl40.slots[((4 : Int32)).toNatClampNeg]? = some (.int v4) := Hs40.at hin40 rfl
    refine own_st (X0.baloadBytes hx (j := (4 : Int32)) (v := (.int v4)) (by rw [e0]; exact Ar40.1) (State.isArrayOf_alike hZ.alike Ar40.2.1) Ar40.2.2 hin40 hat40 (g := (mkF m 11 #[.val (.ref ar), .val (.int ln), .val (.int (7 : Int32))] [(.int (4 : Int32)), (.ref ar)])) rfl rfl (hb hby d2_11)) ?_
    show own_Go _ _ _ _ (s₁.setTop (mkF m 12 #[.val (.ref ar), .val (.int ln), .val (.int (7 : Int32))] [(.int v4)]))
    refine own_st (fun _ k => XS.bipush X0.here hx rfl (hb hby d2_12) k) ?_
    show own_Go _ _ _ _ (s₁.setTop (mkF m 14 #[.val (.ref ar), .val (.int ln), .val (.int (7 : Int32))] [(.int (13 : Int32)), (.int v4)]))
    by_cases hc41 : v4 = (13 : Int32)
    · skip
      refine own_st (fun _ k => XS.icmpNo X0.here hx rfl (hb hby d2_14) rfl (teq hc41).2 k) ?_
      show own_Go _ _ _ _ (s₁.setTop (mkF m 17 #[.val (.ref ar), .val (.int ln), .val (.int (7 : Int32))] []))
      refine own_st (fun _ k => XS.aloadN X0.here hx rfl (hb hby d2_17) rfl rfl k) ?_
      show own_Go _ _ _ _ (s₁.setTop (mkF m 18 #[.val (.ref ar), .val (.int ln), .val (.int (7 : Int32))] [(.ref ar)]))
      refine own_st (fun _ k => XS.iloadN X0.here hx rfl (hb hby d2_18) rfl k) ?_
      show own_Go _ _ _ _ (s₁.setTop (mkF m 19 #[.val (.ref ar), .val (.int ln), .val (.int (7 : Int32))] [(.int (7 : Int32)), (.ref ar)]))
      refine own_st (fun _ k => XS.iconst X0.here hx rfl (hb hby d2_19) k) ?_
      show own_Go _ _ _ _ (s₁.setTop (mkF m 20 #[.val (.ref ar), .val (.int ln), .val (.int (7 : Int32))] [(.int (2 : Int32)), (.int (7 : Int32)), (.ref ar)]))
      refine own_st (fun _ k => XS.isub X0.here hx rfl (hb hby d2_20) rfl k) ?_
      show own_Go _ _ _ _ (s₁.setTop (mkF m 21 #[.val (.ref ar), .val (.int ln), .val (.int (7 : Int32))] [(.int (5 : Int32)), (.ref ar)]))
      obtain ⟨cl42, Ar42, -, Sz42, Nn42, Hs42, -⟩ := id V_ar
      have hin42 : ¬ ((5 : Int32) < 0 ∨ cl42.slots.size ≤ ((5 : Int32)).toNatClampNeg) := inb_of Sz42 ⟨(by decide : ¬ ((5 : Int32) < (0 : Int32))), (by decide : (5 : Int32) < (8 : Int32))⟩
      have hat42 : cl42.slots[((5 : Int32)).toNatClampNeg]? = some (.int v5) := Hs42.at hin42 rfl
      refine own_st (X0.baloadBytes hx (j := (5 : Int32)) (v := (.int v5)) (by rw [e0]; exact Ar42.1) (State.isArrayOf_alike hZ.alike Ar42.2.1) Ar42.2.2 hin42 hat42 (g := (mkF m 21 #[.val (.ref ar), .val (.int ln), .val (.int (7 : Int32))] [(.int (5 : Int32)), (.ref ar)])) rfl rfl (hb hby d2_21)) ?_
      show own_Go _ _ _ _ (s₁.setTop (mkF m 22 #[.val (.ref ar), .val (.int ln), .val (.int (7 : Int32))] [(.int v5)]))
      refine own_st (fun _ k => XS.bipush X0.here hx rfl (hb hby d2_22) k) ?_
      show own_Go _ _ _ _ (s₁.setTop (mkF m 24 #[.val (.ref ar), .val (.int ln), .val (.int (7 : Int32))] [(.int (10 : Int32)), (.int v5)]))
      by_cases hc43 : v5 = (10 : Int32)
      · skip
        refine own_st (fun _ k => XS.icmpNo X0.here hx rfl (hb hby d2_24) rfl (teq hc43).2 k) ?_
        show own_Go _ _ _ _ (s₁.setTop (mkF m 27 #[.val (.ref ar), .val (.int ln), .val (.int (7 : Int32))] []))
        refine own_st (fun _ k => XS.aloadN X0.here hx rfl (hb hby d2_27) rfl rfl k) ?_
        show own_Go _ _ _ _ (s₁.setTop (mkF m 28 #[.val (.ref ar), .val (.int ln), .val (.int (7 : Int32))] [(.ref ar)]))
        refine own_st (fun _ k => XS.iloadN X0.here hx rfl (hb hby d2_28) rfl k) ?_
        show own_Go _ _ _ _ (s₁.setTop (mkF m 29 #[.val (.ref ar), .val (.int ln), .val (.int (7 : Int32))] [(.int (7 : Int32)), (.ref ar)]))
        refine own_st (fun _ k => XS.iconst X0.here hx rfl (hb hby d2_29) k) ?_
        show own_Go _ _ _ _ (s₁.setTop (mkF m 30 #[.val (.ref ar), .val (.int ln), .val (.int (7 : Int32))] [(.int (1 : Int32)), (.int (7 : Int32)), (.ref ar)]))
        refine own_st (fun _ k => XS.isub X0.here hx rfl (hb hby d2_30) rfl k) ?_
        show own_Go _ _ _ _ (s₁.setTop (mkF m 31 #[.val (.ref ar), .val (.int ln), .val (.int (7 : Int32))] [(.int (6 : Int32)), (.ref ar)]))
        obtain ⟨cl44, Ar44, -, Sz44, Nn44, Hs44, -⟩ := id V_ar
        have hin44 : ¬ ((6 : Int32) < 0 ∨ cl44.slots.size ≤ ((6 : Int32)).toNatClampNeg) := inb_of Sz44 ⟨(by decide : ¬ ((6 : Int32) < (0 : Int32))), (by decide : (6 : Int32) < (8 : Int32))⟩
        have hat44 : cl44.slots[((6 : Int32)).toNatClampNeg]? = some (.int v6) := Hs44.at hin44 rfl
        refine own_st (X0.baloadBytes hx (j := (6 : Int32)) (v := (.int v6)) (by rw [e0]; exact Ar44.1) (State.isArrayOf_alike hZ.alike Ar44.2.1) Ar44.2.2 hin44 hat44 (g := (mkF m 31 #[.val (.ref ar), .val (.int ln), .val (.int (7 : Int32))] [(.int (6 : Int32)), (.ref ar)])) rfl rfl (hb hby d2_31)) ?_
        show own_Go _ _ _ _ (s₁.setTop (mkF m 32 #[.val (.ref ar), .val (.int ln), .val (.int (7 : Int32))] [(.int v6)]))
        refine own_st (fun _ k => XS.bipush X0.here hx rfl (hb hby d2_32) k) ?_
        show own_Go _ _ _ _ (s₁.setTop (mkF m 34 #[.val (.ref ar), .val (.int ln), .val (.int (7 : Int32))] [(.int (13 : Int32)), (.int v6)]))
        by_cases hc45 : v6 = (13 : Int32)
        · skip
          refine own_st (fun _ k => XS.icmpNo X0.here hx rfl (hb hby d2_34) rfl (teq hc45).2 k) ?_
          show own_Go _ _ _ _ (s₁.setTop (mkF m 37 #[.val (.ref ar), .val (.int ln), .val (.int (7 : Int32))] []))
          refine own_st (fun _ k => XS.aloadN X0.here hx rfl (hb hby d2_37) rfl rfl k) ?_
          show own_Go _ _ _ _ (s₁.setTop (mkF m 38 #[.val (.ref ar), .val (.int ln), .val (.int (7 : Int32))] [(.ref ar)]))
          refine own_st (fun _ k => XS.iloadN X0.here hx rfl (hb hby d2_38) rfl k) ?_
          show own_Go _ _ _ _ (s₁.setTop (mkF m 39 #[.val (.ref ar), .val (.int ln), .val (.int (7 : Int32))] [(.int (7 : Int32)), (.ref ar)]))
          obtain ⟨cl46, Ar46, -, Sz46, Nn46, Hs46, -⟩ := id V_ar
          have hin46 : ¬ ((7 : Int32) < 0 ∨ cl46.slots.size ≤ ((7 : Int32)).toNatClampNeg) := inb_of Sz46 ⟨(by decide : ¬ ((7 : Int32) < (0 : Int32))), (by decide : (7 : Int32) < (8 : Int32))⟩
          have hat46 : cl46.slots[((7 : Int32)).toNatClampNeg]? = some (.int v7) := Hs46.at hin46 rfl
          refine own_st (X0.baloadBytes hx (j := (7 : Int32)) (v := (.int v7)) (by rw [e0]; exact Ar46.1) (State.isArrayOf_alike hZ.alike Ar46.2.1) Ar46.2.2 hin46 hat46 (g := (mkF m 39 #[.val (.ref ar), .val (.int ln), .val (.int (7 : Int32))] [(.int (7 : Int32)), (.ref ar)])) rfl rfl (hb hby d2_39)) ?_
          show own_Go _ _ _ _ (s₁.setTop (mkF m 40 #[.val (.ref ar), .val (.int ln), .val (.int (7 : Int32))] [(.int v7)]))
          refine own_st (fun _ k => XS.bipush X0.here hx rfl (hb hby d2_40) k) ?_
          show own_Go _ _ _ _ (s₁.setTop (mkF m 42 #[.val (.ref ar), .val (.int ln), .val (.int (7 : Int32))] [(.int (10 : Int32)), (.int v7)]))
          by_cases hc47 : v7 = (10 : Int32)
          · skip
            refine own_st (fun _ k => XS.icmpNo X0.here hx rfl (hb hby d2_42) rfl (teq hc47).2 k) ?_
            show own_Go _ _ _ _ (s₁.setTop (mkF m 45 #[.val (.ref ar), .val (.int ln), .val (.int (7 : Int32))] []))
            refine own_st (fun _ k => XS.iconst X0.here hx rfl (hb hby d2_45) k) ?_
            show own_Go _ _ _ _ (s₁.setTop (mkF m 46 #[.val (.ref ar), .val (.int ln), .val (.int (7 : Int32))] [(.int (1 : Int32))]))
            refine own_st (fun _ k => XS.goto X0.here hx rfl (pc0 := 46) (pc' := 50) rfl (hb hby d2_46) (by decide) (by decide) k) ?_
            show own_Go _ _ _ _ (s₁.setTop (mkF m 50 #[.val (.ref ar), .val (.int ln), .val (.int (7 : Int32))] [(.int (1 : Int32))]))
            obtain ⟨fs, hr, hrun, hended, hW, hsame⟩ := X0.leave (v := some (.int (1 : Int32))) (fun h => by rw [Bd.returns] at h; cases h)
            refine own_out (retN X0 hx (t := .boolean) Bd.returns (by simp) (hb hby d2_50) hr) ⟨hrun, hended, _, _, rfl, ?_, ⟨_, rfl⟩, hW, hsame.mono (by decide) (by decide)⟩
            show Q2_7 Z ar kk ln v0 v1 v2 v3 v4 v5 v6 v7 h0 n0 _ s₁.heap _
            have hv : own_bl ln (7 : Int32) v4 v5 v6 v7 = (1 : Int32) := by
              unfold own_bl
              rw [if_pos hc39, if_pos ⟨hc41, hc43, hc45, hc47⟩]
            exact ⟨by rw [hv], N0, e0⟩
          · skip
            refine own_st (fun _ k => XS.icmpYes X0.here hx rfl (pc0 := 42) (pc' := 49) rfl (hb hby d2_42) rfl (feq hc47).2 (by decide) (by decide) k) ?_
            show own_Go _ _ _ _ (s₁.setTop (mkF m 49 #[.val (.ref ar), .val (.int ln), .val (.int (7 : Int32))] []))
            refine own_st (fun _ k => XS.iconst X0.here hx rfl (hb hby d2_49) k) ?_
            show own_Go _ _ _ _ (s₁.setTop (mkF m 50 #[.val (.ref ar), .val (.int ln), .val (.int (7 : Int32))] [(.int (0 : Int32))]))
            obtain ⟨fs, hr, hrun, hended, hW, hsame⟩ := X0.leave (v := some (.int (0 : Int32))) (fun h => by rw [Bd.returns] at h; cases h)
            refine own_out (retN X0 hx (t := .boolean) Bd.returns (by simp) (hb hby d2_50) hr) ⟨hrun, hended, _, _, rfl, ?_, ⟨_, rfl⟩, hW, hsame.mono (by decide) (by decide)⟩
            show Q2_7 Z ar kk ln v0 v1 v2 v3 v4 v5 v6 v7 h0 n0 _ s₁.heap _
            have hv : own_bl ln (7 : Int32) v4 v5 v6 v7 = (0 : Int32) := by
              unfold own_bl
              rw [if_pos hc39, if_neg (fun q => hc47 q.2.2.2)]
            exact ⟨by rw [hv], N0, e0⟩
        · skip
          refine own_st (fun _ k => XS.icmpYes X0.here hx rfl (pc0 := 34) (pc' := 49) rfl (hb hby d2_34) rfl (feq hc45).2 (by decide) (by decide) k) ?_
          show own_Go _ _ _ _ (s₁.setTop (mkF m 49 #[.val (.ref ar), .val (.int ln), .val (.int (7 : Int32))] []))
          refine own_st (fun _ k => XS.iconst X0.here hx rfl (hb hby d2_49) k) ?_
          show own_Go _ _ _ _ (s₁.setTop (mkF m 50 #[.val (.ref ar), .val (.int ln), .val (.int (7 : Int32))] [(.int (0 : Int32))]))
          obtain ⟨fs, hr, hrun, hended, hW, hsame⟩ := X0.leave (v := some (.int (0 : Int32))) (fun h => by rw [Bd.returns] at h; cases h)
          refine own_out (retN X0 hx (t := .boolean) Bd.returns (by simp) (hb hby d2_50) hr) ⟨hrun, hended, _, _, rfl, ?_, ⟨_, rfl⟩, hW, hsame.mono (by decide) (by decide)⟩
          show Q2_7 Z ar kk ln v0 v1 v2 v3 v4 v5 v6 v7 h0 n0 _ s₁.heap _
          have hv : own_bl ln (7 : Int32) v4 v5 v6 v7 = (0 : Int32) := by
            unfold own_bl
            rw [if_pos hc39, if_neg (fun q => hc45 q.2.2.1)]
          exact ⟨by rw [hv], N0, e0⟩
      · skip
        refine own_st (fun _ k => XS.icmpYes X0.here hx rfl (pc0 := 24) (pc' := 49) rfl (hb hby d2_24) rfl (feq hc43).2 (by decide) (by decide) k) ?_
        show own_Go _ _ _ _ (s₁.setTop (mkF m 49 #[.val (.ref ar), .val (.int ln), .val (.int (7 : Int32))] []))
        refine own_st (fun _ k => XS.iconst X0.here hx rfl (hb hby d2_49) k) ?_
        show own_Go _ _ _ _ (s₁.setTop (mkF m 50 #[.val (.ref ar), .val (.int ln), .val (.int (7 : Int32))] [(.int (0 : Int32))]))
        obtain ⟨fs, hr, hrun, hended, hW, hsame⟩ := X0.leave (v := some (.int (0 : Int32))) (fun h => by rw [Bd.returns] at h; cases h)
        refine own_out (retN X0 hx (t := .boolean) Bd.returns (by simp) (hb hby d2_50) hr) ⟨hrun, hended, _, _, rfl, ?_, ⟨_, rfl⟩, hW, hsame.mono (by decide) (by decide)⟩
        show Q2_7 Z ar kk ln v0 v1 v2 v3 v4 v5 v6 v7 h0 n0 _ s₁.heap _
        have hv : own_bl ln (7 : Int32) v4 v5 v6 v7 = (0 : Int32) := by
          unfold own_bl
          rw [if_pos hc39, if_neg (fun q => hc43 q.2.1)]
        exact ⟨by rw [hv], N0, e0⟩
    · skip
      refine own_st (fun _ k => XS.icmpYes X0.here hx rfl (pc0 := 14) (pc' := 49) rfl (hb hby d2_14) rfl (feq hc41).2 (by decide) (by decide) k) ?_
      show own_Go _ _ _ _ (s₁.setTop (mkF m 49 #[.val (.ref ar), .val (.int ln), .val (.int (7 : Int32))] []))
      refine own_st (fun _ k => XS.iconst X0.here hx rfl (hb hby d2_49) k) ?_
      show own_Go _ _ _ _ (s₁.setTop (mkF m 50 #[.val (.ref ar), .val (.int ln), .val (.int (7 : Int32))] [(.int (0 : Int32))]))
      obtain ⟨fs, hr, hrun, hended, hW, hsame⟩ := X0.leave (v := some (.int (0 : Int32))) (fun h => by rw [Bd.returns] at h; cases h)
      refine own_out (retN X0 hx (t := .boolean) Bd.returns (by simp) (hb hby d2_50) hr) ⟨hrun, hended, _, _, rfl, ?_, ⟨_, rfl⟩, hW, hsame.mono (by decide) (by decide)⟩
      show Q2_7 Z ar kk ln v0 v1 v2 v3 v4 v5 v6 v7 h0 n0 _ s₁.heap _
      have hv : own_bl ln (7 : Int32) v4 v5 v6 v7 = (0 : Int32) := by
        unfold own_bl
        rw [if_pos hc39, if_neg (fun q => hc41 q.1)]
      exact ⟨by rw [hv], N0, e0⟩
  · skip
    refine own_st (fun _ k => XS.icmpNo X0.here hx rfl (hb hby d2_2) rfl (flt hc39).1 k) ?_
    show own_Go _ _ _ _ (s₁.setTop (mkF m 5 #[.val (.ref ar), .val (.int ln), .val (.int (7 : Int32))] []))
    refine own_st (fun _ k => XS.iconst X0.here hx rfl (hb hby d2_5) k) ?_
    show own_Go _ _ _ _ (s₁.setTop (mkF m 6 #[.val (.ref ar), .val (.int ln), .val (.int (7 : Int32))] [(.int (0 : Int32))]))
    obtain ⟨fs, hr, hrun, hended, hW, hsame⟩ := X0.leave (v := some (.int (0 : Int32))) (fun h => by rw [Bd.returns] at h; cases h)
    refine own_out (retN X0 hx (t := .boolean) Bd.returns (by simp) (hb hby d2_6) hr) ⟨hrun, hended, _, _, rfl, ?_, ⟨_, rfl⟩, hW, hsame.mono (by decide) (by decide)⟩
    show Q2_7 Z ar kk ln v0 v1 v2 v3 v4 v5 v6 v7 h0 n0 _ s₁.heap _
    have hv : own_bl ln (7 : Int32) v4 v5 v6 v7 = (0 : Int32) := by
      unfold own_bl
      rw [if_neg hc39]
    exact ⟨by rw [hv], N0, e0⟩
theorem d3_0 : decode prog_1_method_2_code 0 = .ok (.iconst 3, 1) := by decide +kernel
theorem d3_1 : decode prog_1_method_2_code 1 = .ok (.istore_n 2, 1) := by decide +kernel
theorem d3_2 : decode prog_1_method_2_code 2 = .ok (.iload_n 2, 1) := by decide +kernel
theorem d3_3 : decode prog_1_method_2_code 3 = .ok (.iload_n 1, 1) := by decide +kernel
theorem d3_4 : decode prog_1_method_2_code 4 = .ok (.if_icmp .ge 51, 3) := by decide +kernel
theorem d3_7 : decode prog_1_method_2_code 7 = .ok (.aload_n 0, 1) := by decide +kernel
theorem d3_8 : decode prog_1_method_2_code 8 = .ok (.iload_n 2, 1) := by decide +kernel
theorem d3_9 : decode prog_1_method_2_code 9 = .ok (.baload, 1) := by decide +kernel
theorem d3_10 : decode prog_1_method_2_code 10 = .ok (.bipush 10, 2) := by decide +kernel
theorem d3_12 : decode prog_1_method_2_code 12 = .ok (.if_icmp .ne 37, 3) := by decide +kernel
theorem d3_15 : decode prog_1_method_2_code 15 = .ok (.aload_n 0, 1) := by decide +kernel
theorem d3_16 : decode prog_1_method_2_code 16 = .ok (.iload_n 2, 1) := by decide +kernel
theorem d3_17 : decode prog_1_method_2_code 17 = .ok (.iconst 1, 1) := by decide +kernel
theorem d3_18 : decode prog_1_method_2_code 18 = .ok (.isub, 1) := by decide +kernel
theorem d3_19 : decode prog_1_method_2_code 19 = .ok (.baload, 1) := by decide +kernel
theorem d3_20 : decode prog_1_method_2_code 20 = .ok (.bipush 13, 2) := by decide +kernel
theorem d3_22 : decode prog_1_method_2_code 22 = .ok (.if_icmp .ne 27, 3) := by decide +kernel
theorem d3_25 : decode prog_1_method_2_code 25 = .ok (.aload_n 0, 1) := by decide +kernel
theorem d3_26 : decode prog_1_method_2_code 26 = .ok (.iload_n 2, 1) := by decide +kernel
theorem d3_27 : decode prog_1_method_2_code 27 = .ok (.iconst 2, 1) := by decide +kernel
theorem d3_28 : decode prog_1_method_2_code 28 = .ok (.isub, 1) := by decide +kernel
theorem d3_29 : decode prog_1_method_2_code 29 = .ok (.baload, 1) := by decide +kernel
theorem d3_30 : decode prog_1_method_2_code 30 = .ok (.bipush 10, 2) := by decide +kernel
theorem d3_32 : decode prog_1_method_2_code 32 = .ok (.if_icmp .ne 17, 3) := by decide +kernel
theorem d3_35 : decode prog_1_method_2_code 35 = .ok (.aload_n 0, 1) := by decide +kernel
theorem d3_36 : decode prog_1_method_2_code 36 = .ok (.iload_n 2, 1) := by decide +kernel
theorem d3_37 : decode prog_1_method_2_code 37 = .ok (.iconst 3, 1) := by decide +kernel
theorem d3_38 : decode prog_1_method_2_code 38 = .ok (.isub, 1) := by decide +kernel
theorem d3_39 : decode prog_1_method_2_code 39 = .ok (.baload, 1) := by decide +kernel
theorem d3_40 : decode prog_1_method_2_code 40 = .ok (.bipush 13, 2) := by decide +kernel
theorem d3_42 : decode prog_1_method_2_code 42 = .ok (.if_icmp .ne 7, 3) := by decide +kernel
theorem d3_45 : decode prog_1_method_2_code 45 = .ok (.iload_n 2, 1) := by decide +kernel
theorem d3_46 : decode prog_1_method_2_code 46 = .ok (.iconst 1, 1) := by decide +kernel
theorem d3_47 : decode prog_1_method_2_code 47 = .ok (.iadd, 1) := by decide +kernel
theorem d3_48 : decode prog_1_method_2_code 48 = .ok (.ireturn, 1) := by decide +kernel
theorem d3_49 : decode prog_1_method_2_code 49 = .ok (.iinc 2 1, 3) := by decide +kernel
theorem d3_52 : decode prog_1_method_2_code 52 = .ok (.goto (-50), 3) := by decide +kernel
theorem d3_55 : decode prog_1_method_2_code 55 = .ok (.iconst 0, 1) := by decide +kernel
theorem d3_56 : decode prog_1_method_2_code 56 = .ok (.ireturn, 1) := by decide +kernel
theorem own_pd2 : parseMethodDescriptor "([BI)I" = some ⟨[(.array .byte), .int], some .int⟩ := by decide +kernel
theorem own_pn1 : plainName "HttpHead" = true := by first | (simp [plainName, overriddenIn]; done) | decide +kernel
def Q3 (Z : State) (ar : Addr) (kk : ClassId) (ln : Int32) (v0 : Int32) (v1 : Int32) (v2 : Int32) (v3 : Int32) (v4 : Int32) (v5 : Int32) (v6 : Int32) (v7 : Int32) (h0 : Heap) (n0 : Nat) (v : Option Value) (h : Heap) (L : List Loc) : Prop := v = some (.int (own_end ln v0 v1 v2 v3 v4 v5 v6 v7)) ∧ Fr n0 L ∧ h = h0
theorem ef_3 (m : MethodId) (x0 : Addr) (x1 : Int32) : entryFrame m #[(.ref x0), (.int x1)] 3 = mkF m 0 #[.val (.ref x0), .val (.int x1), .unset] [] := by first | (simp [entryFrame, mkF, argsToLocals, Value.category]; done) | rfl
set_option maxRecDepth 65536 in
set_option maxHeartbeats 40000000 in
theorem rm3 (l : Launch) (Z : State) (a0 : Array Value) (hw : ∀ d ∈ tables_1, d.before a0 Z = true) (ws : List Jvm.Cond) (ar : Addr) (kk : ClassId) (ln : Int32) (v0 : Int32) (v1 : Int32) (v2 : Int32) (v3 : Int32) (v4 : Int32) (v5 : Int32) (v6 : Int32) (v7 : Int32) (h0 : Heap) (n0 : Nat) (Z0 : n0 ≤ h0.size) (V_ar : Arv Z h0 ar kk .byte (8 : Int32) [.int v0, .int v1, .int v2, .int v3, .int v4, .int v5, .int v6, .int v7] (.int (0 : Int32))) (h8 : ¬ (8 : Int32) < ln) :
    MetFree l (⟨"HttpHead", "end", "([BI)I"⟩ : MethodName) (head1 (Jvm.Cond.code (⟨"HttpHead", "end", "([BI)I"⟩ : MethodName) prog_1_method_2_code 3 (some .int) :: ws) ({ frames := 0, cells := 0, slots := 0, locals := 0 } : Room)) (fun a U => a = #[(.ref ar), (.int ln)] ∧ Z.Warmed39 U.vm ∧ U.heap = h0) (fun _ _ _ _ _ => True) (fun _ U o U' => ∃ v L, o = .returned v ∧ Q3 Z ar kk ln v0 v1 v2 v3 v4 v5 v6 v7 h0 n0 v U'.heap L ∧ FrameEnd U o U' L ({ frames := 0, cells := 0, slots := 0, locals := 0 } : Room).cells ({ frames := 0, cells := 0, slots := 0, locals := 0 } : Room).slots) := by
  refine MetFree.of_bodySF (plainFor_of_name own_pn1) hisR ?_
  intro p e s m args below meth c s₁ Bd hml0 hP hK
  obtain ⟨rfl, hZ, hh⟩ := hP
  have hx := Bd.exec
  have hby := Bd.bytes
  have hml : c.maxLocals = 3 := hml0
  have hown : s.vm.findClass "HttpHead" = some m.cls := findClass_of_methodNamed Bd.named
  have hnm := (name_of_methodNamed Bd.named Bd.method).1
  have X0 : Stand p l e ({ frames := 0, cells := 0, slots := 0, locals := 0 } : Room) s m #[(.ref ar), (.int ln)] below meth c s₁ [] 0 0 := Stand.of_body Bd
  have e0 : s₁.heap = h0 := by rw [← hh, Bd.state]; rfl
  have N0 := Fr.nil n0
  refine own_in ?_
  refine own_st (fun _ k => castTop (ef_3 m ar ln) k) ?_
  have K0 : Keep h0 h0 [] := Keep.refl h0 []
  show own_Go _ _ _ _ (s₁.setTop (mkF m 0 #[.val (.ref ar), .val (.int ln), .unset] []))
  refine own_st (fun _ k => XS.iconst X0.here hx rfl (hb hby d3_0) k) ?_
  show own_Go _ _ _ _ (s₁.setTop (mkF m 1 #[.val (.ref ar), .val (.int ln), .unset] [(.int (3 : Int32))]))
  refine own_st (fun _ k => XS.istoreN X0.here hx rfl (hb hby d3_1) rfl (l' := #[.val (.ref ar), .val (.int ln), .val (.int (3 : Int32))]) rfl k) ?_
  show own_Go _ _ _ _ (s₁.setTop (mkF m 2 #[.val (.ref ar), .val (.int ln), .val (.int (3 : Int32))] []))
  refine own_st (fun _ k => XS.iloadN X0.here hx rfl (hb hby d3_2) rfl k) ?_
  show own_Go _ _ _ _ (s₁.setTop (mkF m 3 #[.val (.ref ar), .val (.int ln), .val (.int (3 : Int32))] [(.int (3 : Int32))]))
  refine own_st (fun _ k => XS.iloadN X0.here hx rfl (hb hby d3_3) rfl k) ?_
  show own_Go _ _ _ _ (s₁.setTop (mkF m 4 #[.val (.ref ar), .val (.int ln), .val (.int (3 : Int32))] [(.int ln), (.int (3 : Int32))]))
  by_cases hc48 : (3 : Int32) < ln
  · skip
    refine own_st (fun _ k => XS.icmpNo X0.here hx rfl (hb hby d3_4) rfl (tlt hc48).2.1 k) ?_
    show own_Go _ _ _ _ (s₁.setTop (mkF m 7 #[.val (.ref ar), .val (.int ln), .val (.int (3 : Int32))] []))
    refine own_join (fun z : Unit => s₁.setTop (mkF m 49 #[.val (.ref ar), .val (.int ln), .val (.int (3 : Int32))] [])) (fun z => ¬ own_b4 v0 v1 v2 v3) ?_ ?_
    · intro z hj49
      show own_Go _ _ _ _ (s₁.setTop (mkF m 49 #[.val (.ref ar), .val (.int ln), .val (.int (3 : Int32))] []))
      refine own_st (fun _ k => XS.iinc X0.here hx rfl (hb hby d3_49) rfl (l' := #[.val (.ref ar), .val (.int ln), .val (.int (4 : Int32))]) rfl k) ?_
      show own_Go _ _ _ _ (s₁.setTop (mkF m 52 #[.val (.ref ar), .val (.int ln), .val (.int (4 : Int32))] []))
      refine own_st (fun _ k => XS.goto X0.here hx rfl (pc0 := 52) (pc' := 2) rfl (hb hby d3_52) (by decide) (by decide) k) ?_
      show own_Go _ _ _ _ (s₁.setTop (mkF m 2 #[.val (.ref ar), .val (.int ln), .val (.int (4 : Int32))] []))
      refine own_st (fun _ k => XS.iloadN X0.here hx rfl (hb hby d3_2) rfl k) ?_
      show own_Go _ _ _ _ (s₁.setTop (mkF m 3 #[.val (.ref ar), .val (.int ln), .val (.int (4 : Int32))] [(.int (4 : Int32))]))
      refine own_st (fun _ k => XS.iloadN X0.here hx rfl (hb hby d3_3) rfl k) ?_
      show own_Go _ _ _ _ (s₁.setTop (mkF m 4 #[.val (.ref ar), .val (.int ln), .val (.int (4 : Int32))] [(.int ln), (.int (4 : Int32))]))
      by_cases hc50 : (4 : Int32) < ln
      · skip
        refine own_st (fun _ k => XS.icmpNo X0.here hx rfl (hb hby d3_4) rfl (tlt hc50).2.1 k) ?_
        show own_Go _ _ _ _ (s₁.setTop (mkF m 7 #[.val (.ref ar), .val (.int ln), .val (.int (4 : Int32))] []))
        refine own_join (fun z : Unit => s₁.setTop (mkF m 49 #[.val (.ref ar), .val (.int ln), .val (.int (4 : Int32))] [])) (fun z => ¬ own_b4 v1 v2 v3 v4) ?_ ?_
        · intro z hj51
          show own_Go _ _ _ _ (s₁.setTop (mkF m 49 #[.val (.ref ar), .val (.int ln), .val (.int (4 : Int32))] []))
          refine own_st (fun _ k => XS.iinc X0.here hx rfl (hb hby d3_49) rfl (l' := #[.val (.ref ar), .val (.int ln), .val (.int (5 : Int32))]) rfl k) ?_
          show own_Go _ _ _ _ (s₁.setTop (mkF m 52 #[.val (.ref ar), .val (.int ln), .val (.int (5 : Int32))] []))
          refine own_st (fun _ k => XS.goto X0.here hx rfl (pc0 := 52) (pc' := 2) rfl (hb hby d3_52) (by decide) (by decide) k) ?_
          show own_Go _ _ _ _ (s₁.setTop (mkF m 2 #[.val (.ref ar), .val (.int ln), .val (.int (5 : Int32))] []))
          refine own_st (fun _ k => XS.iloadN X0.here hx rfl (hb hby d3_2) rfl k) ?_
          show own_Go _ _ _ _ (s₁.setTop (mkF m 3 #[.val (.ref ar), .val (.int ln), .val (.int (5 : Int32))] [(.int (5 : Int32))]))
          refine own_st (fun _ k => XS.iloadN X0.here hx rfl (hb hby d3_3) rfl k) ?_
          show own_Go _ _ _ _ (s₁.setTop (mkF m 4 #[.val (.ref ar), .val (.int ln), .val (.int (5 : Int32))] [(.int ln), (.int (5 : Int32))]))
          by_cases hc52 : (5 : Int32) < ln
          · skip
            refine own_st (fun _ k => XS.icmpNo X0.here hx rfl (hb hby d3_4) rfl (tlt hc52).2.1 k) ?_
            show own_Go _ _ _ _ (s₁.setTop (mkF m 7 #[.val (.ref ar), .val (.int ln), .val (.int (5 : Int32))] []))
            refine own_join (fun z : Unit => s₁.setTop (mkF m 49 #[.val (.ref ar), .val (.int ln), .val (.int (5 : Int32))] [])) (fun z => ¬ own_b4 v2 v3 v4 v5) ?_ ?_
            · intro z hj53
              show own_Go _ _ _ _ (s₁.setTop (mkF m 49 #[.val (.ref ar), .val (.int ln), .val (.int (5 : Int32))] []))
              refine own_st (fun _ k => XS.iinc X0.here hx rfl (hb hby d3_49) rfl (l' := #[.val (.ref ar), .val (.int ln), .val (.int (6 : Int32))]) rfl k) ?_
              show own_Go _ _ _ _ (s₁.setTop (mkF m 52 #[.val (.ref ar), .val (.int ln), .val (.int (6 : Int32))] []))
              refine own_st (fun _ k => XS.goto X0.here hx rfl (pc0 := 52) (pc' := 2) rfl (hb hby d3_52) (by decide) (by decide) k) ?_
              show own_Go _ _ _ _ (s₁.setTop (mkF m 2 #[.val (.ref ar), .val (.int ln), .val (.int (6 : Int32))] []))
              refine own_st (fun _ k => XS.iloadN X0.here hx rfl (hb hby d3_2) rfl k) ?_
              show own_Go _ _ _ _ (s₁.setTop (mkF m 3 #[.val (.ref ar), .val (.int ln), .val (.int (6 : Int32))] [(.int (6 : Int32))]))
              refine own_st (fun _ k => XS.iloadN X0.here hx rfl (hb hby d3_3) rfl k) ?_
              show own_Go _ _ _ _ (s₁.setTop (mkF m 4 #[.val (.ref ar), .val (.int ln), .val (.int (6 : Int32))] [(.int ln), (.int (6 : Int32))]))
              by_cases hc54 : (6 : Int32) < ln
              · skip
                refine own_st (fun _ k => XS.icmpNo X0.here hx rfl (hb hby d3_4) rfl (tlt hc54).2.1 k) ?_
                show own_Go _ _ _ _ (s₁.setTop (mkF m 7 #[.val (.ref ar), .val (.int ln), .val (.int (6 : Int32))] []))
                refine own_join (fun z : Unit => s₁.setTop (mkF m 49 #[.val (.ref ar), .val (.int ln), .val (.int (6 : Int32))] [])) (fun z => ¬ own_b4 v3 v4 v5 v6) ?_ ?_
                · intro z hj55
                  show own_Go _ _ _ _ (s₁.setTop (mkF m 49 #[.val (.ref ar), .val (.int ln), .val (.int (6 : Int32))] []))
                  refine own_st (fun _ k => XS.iinc X0.here hx rfl (hb hby d3_49) rfl (l' := #[.val (.ref ar), .val (.int ln), .val (.int (7 : Int32))]) rfl k) ?_
                  show own_Go _ _ _ _ (s₁.setTop (mkF m 52 #[.val (.ref ar), .val (.int ln), .val (.int (7 : Int32))] []))
                  refine own_st (fun _ k => XS.goto X0.here hx rfl (pc0 := 52) (pc' := 2) rfl (hb hby d3_52) (by decide) (by decide) k) ?_
                  show own_Go _ _ _ _ (s₁.setTop (mkF m 2 #[.val (.ref ar), .val (.int ln), .val (.int (7 : Int32))] []))
                  refine own_st (fun _ k => XS.iloadN X0.here hx rfl (hb hby d3_2) rfl k) ?_
                  show own_Go _ _ _ _ (s₁.setTop (mkF m 3 #[.val (.ref ar), .val (.int ln), .val (.int (7 : Int32))] [(.int (7 : Int32))]))
                  refine own_st (fun _ k => XS.iloadN X0.here hx rfl (hb hby d3_3) rfl k) ?_
                  show own_Go _ _ _ _ (s₁.setTop (mkF m 4 #[.val (.ref ar), .val (.int ln), .val (.int (7 : Int32))] [(.int ln), (.int (7 : Int32))]))
                  by_cases hc56 : (7 : Int32) < ln
                  · skip
                    refine own_st (fun _ k => XS.icmpNo X0.here hx rfl (hb hby d3_4) rfl (tlt hc56).2.1 k) ?_
                    show own_Go _ _ _ _ (s₁.setTop (mkF m 7 #[.val (.ref ar), .val (.int ln), .val (.int (7 : Int32))] []))
                    refine own_join (fun z : Unit => s₁.setTop (mkF m 49 #[.val (.ref ar), .val (.int ln), .val (.int (7 : Int32))] [])) (fun z => ¬ own_b4 v4 v5 v6 v7) ?_ ?_
                    · intro z hj57
                      show own_Go _ _ _ _ (s₁.setTop (mkF m 49 #[.val (.ref ar), .val (.int ln), .val (.int (7 : Int32))] []))
                      refine own_st (fun _ k => XS.iinc X0.here hx rfl (hb hby d3_49) rfl (l' := #[.val (.ref ar), .val (.int ln), .val (.int (8 : Int32))]) rfl k) ?_
                      show own_Go _ _ _ _ (s₁.setTop (mkF m 52 #[.val (.ref ar), .val (.int ln), .val (.int (8 : Int32))] []))
                      refine own_st (fun _ k => XS.goto X0.here hx rfl (pc0 := 52) (pc' := 2) rfl (hb hby d3_52) (by decide) (by decide) k) ?_
                      show own_Go _ _ _ _ (s₁.setTop (mkF m 2 #[.val (.ref ar), .val (.int ln), .val (.int (8 : Int32))] []))
                      refine own_st (fun _ k => XS.iloadN X0.here hx rfl (hb hby d3_2) rfl k) ?_
                      show own_Go _ _ _ _ (s₁.setTop (mkF m 3 #[.val (.ref ar), .val (.int ln), .val (.int (8 : Int32))] [(.int (8 : Int32))]))
                      refine own_st (fun _ k => XS.iloadN X0.here hx rfl (hb hby d3_3) rfl k) ?_
                      show own_Go _ _ _ _ (s₁.setTop (mkF m 4 #[.val (.ref ar), .val (.int ln), .val (.int (8 : Int32))] [(.int ln), (.int (8 : Int32))]))
                      refine own_st (fun _ k => XS.icmpYes X0.here hx rfl (pc0 := 4) (pc' := 55) rfl (hb hby d3_4) rfl (flt (h8)).2.1 (by decide) (by decide) k) ?_
                      show own_Go _ _ _ _ (s₁.setTop (mkF m 55 #[.val (.ref ar), .val (.int ln), .val (.int (8 : Int32))] []))
                      refine own_st (fun _ k => XS.iconst X0.here hx rfl (hb hby d3_55) k) ?_
                      show own_Go _ _ _ _ (s₁.setTop (mkF m 56 #[.val (.ref ar), .val (.int ln), .val (.int (8 : Int32))] [(.int (0 : Int32))]))
                      obtain ⟨fs, hr, hrun, hended, hW, hsame⟩ := X0.leave (v := some (.int (0 : Int32))) (fun h => by rw [Bd.returns] at h; cases h)
                      refine own_out (own_retI X0 hx Bd.returns (hb hby d3_56) hr) ⟨hrun, hended, _, _, rfl, ?_, ⟨_, rfl⟩, hW, hsame.mono (by decide) (by decide)⟩
                      show Q3 Z ar kk ln v0 v1 v2 v3 v4 v5 v6 v7 h0 n0 _ s₁.heap _
                      have hv : own_end ln v0 v1 v2 v3 v4 v5 v6 v7 = (0 : Int32) := by
                        unfold own_end
                        rw [if_pos hc48, if_neg hj49, if_pos hc50, if_neg hj51, if_pos hc52, if_neg hj53, if_pos hc54, if_neg hj55, if_pos hc56, if_neg hj57]
                      exact ⟨by rw [hv], N0, e0⟩
                    · intro J57
                      show own_Go _ _ _ _ (s₁.setTop (mkF m 7 #[.val (.ref ar), .val (.int ln), .val (.int (7 : Int32))] []))
                      refine own_st (fun _ k => XS.aloadN X0.here hx rfl (hb hby d3_7) rfl rfl k) ?_
                      show own_Go _ _ _ _ (s₁.setTop (mkF m 8 #[.val (.ref ar), .val (.int ln), .val (.int (7 : Int32))] [(.ref ar)]))
                      refine own_st (fun _ k => XS.iloadN X0.here hx rfl (hb hby d3_8) rfl k) ?_
                      show own_Go _ _ _ _ (s₁.setTop (mkF m 9 #[.val (.ref ar), .val (.int ln), .val (.int (7 : Int32))] [(.int (7 : Int32)), (.ref ar)]))
                      obtain ⟨cl58, Ar58, -, Sz58, Nn58, Hs58, -⟩ := id V_ar
                      have hin58 : ¬ ((7 : Int32) < 0 ∨ cl58.slots.size ≤ ((7 : Int32)).toNatClampNeg) := inb_of Sz58 ⟨(by decide : ¬ ((7 : Int32) < (0 : Int32))), (by decide : (7 : Int32) < (8 : Int32))⟩
                      have hat58 : cl58.slots[((7 : Int32)).toNatClampNeg]? = some (.int v7) := Hs58.at hin58 rfl
                      refine own_st (X0.baloadBytes hx (j := (7 : Int32)) (v := (.int v7)) (by rw [e0]; exact Ar58.1) (State.isArrayOf_alike hZ.alike Ar58.2.1) Ar58.2.2 hin58 hat58 (g := (mkF m 9 #[.val (.ref ar), .val (.int ln), .val (.int (7 : Int32))] [(.int (7 : Int32)), (.ref ar)])) rfl rfl (hb hby d3_9)) ?_
                      show own_Go _ _ _ _ (s₁.setTop (mkF m 10 #[.val (.ref ar), .val (.int ln), .val (.int (7 : Int32))] [(.int v7)]))
                      refine own_st (fun _ k => XS.bipush X0.here hx rfl (hb hby d3_10) k) ?_
                      show own_Go _ _ _ _ (s₁.setTop (mkF m 12 #[.val (.ref ar), .val (.int ln), .val (.int (7 : Int32))] [(.int (10 : Int32)), (.int v7)]))
                      by_cases hc59 : v7 = (10 : Int32)
                      · skip
                        refine own_st (fun _ k => XS.icmpNo X0.here hx rfl (hb hby d3_12) rfl (teq hc59).2 k) ?_
                        show own_Go _ _ _ _ (s₁.setTop (mkF m 15 #[.val (.ref ar), .val (.int ln), .val (.int (7 : Int32))] []))
                        refine own_st (fun _ k => XS.aloadN X0.here hx rfl (hb hby d3_15) rfl rfl k) ?_
                        show own_Go _ _ _ _ (s₁.setTop (mkF m 16 #[.val (.ref ar), .val (.int ln), .val (.int (7 : Int32))] [(.ref ar)]))
                        refine own_st (fun _ k => XS.iloadN X0.here hx rfl (hb hby d3_16) rfl k) ?_
                        show own_Go _ _ _ _ (s₁.setTop (mkF m 17 #[.val (.ref ar), .val (.int ln), .val (.int (7 : Int32))] [(.int (7 : Int32)), (.ref ar)]))
                        refine own_st (fun _ k => XS.iconst X0.here hx rfl (hb hby d3_17) k) ?_
                        show own_Go _ _ _ _ (s₁.setTop (mkF m 18 #[.val (.ref ar), .val (.int ln), .val (.int (7 : Int32))] [(.int (1 : Int32)), (.int (7 : Int32)), (.ref ar)]))
                        refine own_st (fun _ k => XS.isub X0.here hx rfl (hb hby d3_18) rfl k) ?_
                        show own_Go _ _ _ _ (s₁.setTop (mkF m 19 #[.val (.ref ar), .val (.int ln), .val (.int (7 : Int32))] [(.int (6 : Int32)), (.ref ar)]))
                        obtain ⟨cl60, Ar60, -, Sz60, Nn60, Hs60, -⟩ := id V_ar
                        have hin60 : ¬ ((6 : Int32) < 0 ∨ cl60.slots.size ≤ ((6 : Int32)).toNatClampNeg) := inb_of Sz60 ⟨(by decide : ¬ ((6 : Int32) < (0 : Int32))), (by decide : (6 : Int32) < (8 : Int32))⟩
                        have hat60 : cl60.slots[((6 : Int32)).toNatClampNeg]? = some (.int v6) := Hs60.at hin60 rfl
                        refine own_st (X0.baloadBytes hx (j := (6 : Int32)) (v := (.int v6)) (by rw [e0]; exact Ar60.1) (State.isArrayOf_alike hZ.alike Ar60.2.1) Ar60.2.2 hin60 hat60 (g := (mkF m 19 #[.val (.ref ar), .val (.int ln), .val (.int (7 : Int32))] [(.int (6 : Int32)), (.ref ar)])) rfl rfl (hb hby d3_19)) ?_
                        show own_Go _ _ _ _ (s₁.setTop (mkF m 20 #[.val (.ref ar), .val (.int ln), .val (.int (7 : Int32))] [(.int v6)]))
                        refine own_st (fun _ k => XS.bipush X0.here hx rfl (hb hby d3_20) k) ?_
                        show own_Go _ _ _ _ (s₁.setTop (mkF m 22 #[.val (.ref ar), .val (.int ln), .val (.int (7 : Int32))] [(.int (13 : Int32)), (.int v6)]))
                        by_cases hc61 : v6 = (13 : Int32)
                        · skip
                          refine own_st (fun _ k => XS.icmpNo X0.here hx rfl (hb hby d3_22) rfl (teq hc61).2 k) ?_
                          show own_Go _ _ _ _ (s₁.setTop (mkF m 25 #[.val (.ref ar), .val (.int ln), .val (.int (7 : Int32))] []))
                          refine own_st (fun _ k => XS.aloadN X0.here hx rfl (hb hby d3_25) rfl rfl k) ?_
                          show own_Go _ _ _ _ (s₁.setTop (mkF m 26 #[.val (.ref ar), .val (.int ln), .val (.int (7 : Int32))] [(.ref ar)]))
                          refine own_st (fun _ k => XS.iloadN X0.here hx rfl (hb hby d3_26) rfl k) ?_
                          show own_Go _ _ _ _ (s₁.setTop (mkF m 27 #[.val (.ref ar), .val (.int ln), .val (.int (7 : Int32))] [(.int (7 : Int32)), (.ref ar)]))
                          refine own_st (fun _ k => XS.iconst X0.here hx rfl (hb hby d3_27) k) ?_
                          show own_Go _ _ _ _ (s₁.setTop (mkF m 28 #[.val (.ref ar), .val (.int ln), .val (.int (7 : Int32))] [(.int (2 : Int32)), (.int (7 : Int32)), (.ref ar)]))
                          refine own_st (fun _ k => XS.isub X0.here hx rfl (hb hby d3_28) rfl k) ?_
                          show own_Go _ _ _ _ (s₁.setTop (mkF m 29 #[.val (.ref ar), .val (.int ln), .val (.int (7 : Int32))] [(.int (5 : Int32)), (.ref ar)]))
                          obtain ⟨cl62, Ar62, -, Sz62, Nn62, Hs62, -⟩ := id V_ar
                          have hin62 : ¬ ((5 : Int32) < 0 ∨ cl62.slots.size ≤ ((5 : Int32)).toNatClampNeg) := inb_of Sz62 ⟨(by decide : ¬ ((5 : Int32) < (0 : Int32))), (by decide : (5 : Int32) < (8 : Int32))⟩
                          have hat62 : cl62.slots[((5 : Int32)).toNatClampNeg]? = some (.int v5) := Hs62.at hin62 rfl
                          refine own_st (X0.baloadBytes hx (j := (5 : Int32)) (v := (.int v5)) (by rw [e0]; exact Ar62.1) (State.isArrayOf_alike hZ.alike Ar62.2.1) Ar62.2.2 hin62 hat62 (g := (mkF m 29 #[.val (.ref ar), .val (.int ln), .val (.int (7 : Int32))] [(.int (5 : Int32)), (.ref ar)])) rfl rfl (hb hby d3_29)) ?_
                          show own_Go _ _ _ _ (s₁.setTop (mkF m 30 #[.val (.ref ar), .val (.int ln), .val (.int (7 : Int32))] [(.int v5)]))
                          refine own_st (fun _ k => XS.bipush X0.here hx rfl (hb hby d3_30) k) ?_
                          show own_Go _ _ _ _ (s₁.setTop (mkF m 32 #[.val (.ref ar), .val (.int ln), .val (.int (7 : Int32))] [(.int (10 : Int32)), (.int v5)]))
                          by_cases hc63 : v5 = (10 : Int32)
                          · skip
                            refine own_st (fun _ k => XS.icmpNo X0.here hx rfl (hb hby d3_32) rfl (teq hc63).2 k) ?_
                            show own_Go _ _ _ _ (s₁.setTop (mkF m 35 #[.val (.ref ar), .val (.int ln), .val (.int (7 : Int32))] []))
                            refine own_st (fun _ k => XS.aloadN X0.here hx rfl (hb hby d3_35) rfl rfl k) ?_
                            show own_Go _ _ _ _ (s₁.setTop (mkF m 36 #[.val (.ref ar), .val (.int ln), .val (.int (7 : Int32))] [(.ref ar)]))
                            refine own_st (fun _ k => XS.iloadN X0.here hx rfl (hb hby d3_36) rfl k) ?_
                            show own_Go _ _ _ _ (s₁.setTop (mkF m 37 #[.val (.ref ar), .val (.int ln), .val (.int (7 : Int32))] [(.int (7 : Int32)), (.ref ar)]))
                            refine own_st (fun _ k => XS.iconst X0.here hx rfl (hb hby d3_37) k) ?_
                            show own_Go _ _ _ _ (s₁.setTop (mkF m 38 #[.val (.ref ar), .val (.int ln), .val (.int (7 : Int32))] [(.int (3 : Int32)), (.int (7 : Int32)), (.ref ar)]))
                            refine own_st (fun _ k => XS.isub X0.here hx rfl (hb hby d3_38) rfl k) ?_
                            show own_Go _ _ _ _ (s₁.setTop (mkF m 39 #[.val (.ref ar), .val (.int ln), .val (.int (7 : Int32))] [(.int (4 : Int32)), (.ref ar)]))
                            obtain ⟨cl64, Ar64, -, Sz64, Nn64, Hs64, -⟩ := id V_ar
                            have hin64 : ¬ ((4 : Int32) < 0 ∨ cl64.slots.size ≤ ((4 : Int32)).toNatClampNeg) := inb_of Sz64 ⟨(by decide : ¬ ((4 : Int32) < (0 : Int32))), (by decide : (4 : Int32) < (8 : Int32))⟩
                            have hat64 : cl64.slots[((4 : Int32)).toNatClampNeg]? = some (.int v4) := Hs64.at hin64 rfl
                            refine own_st (X0.baloadBytes hx (j := (4 : Int32)) (v := (.int v4)) (by rw [e0]; exact Ar64.1) (State.isArrayOf_alike hZ.alike Ar64.2.1) Ar64.2.2 hin64 hat64 (g := (mkF m 39 #[.val (.ref ar), .val (.int ln), .val (.int (7 : Int32))] [(.int (4 : Int32)), (.ref ar)])) rfl rfl (hb hby d3_39)) ?_
                            show own_Go _ _ _ _ (s₁.setTop (mkF m 40 #[.val (.ref ar), .val (.int ln), .val (.int (7 : Int32))] [(.int v4)]))
                            refine own_st (fun _ k => XS.bipush X0.here hx rfl (hb hby d3_40) k) ?_
                            show own_Go _ _ _ _ (s₁.setTop (mkF m 42 #[.val (.ref ar), .val (.int ln), .val (.int (7 : Int32))] [(.int (13 : Int32)), (.int v4)]))
                            by_cases hc65 : v4 = (13 : Int32)
                            · skip
                              refine own_st (fun _ k => XS.icmpNo X0.here hx rfl (hb hby d3_42) rfl (teq hc65).2 k) ?_
                              show own_Go _ _ _ _ (s₁.setTop (mkF m 45 #[.val (.ref ar), .val (.int ln), .val (.int (7 : Int32))] []))
                              refine own_st (fun _ k => XS.iloadN X0.here hx rfl (hb hby d3_45) rfl k) ?_
                              show own_Go _ _ _ _ (s₁.setTop (mkF m 46 #[.val (.ref ar), .val (.int ln), .val (.int (7 : Int32))] [(.int (7 : Int32))]))
                              refine own_st (fun _ k => XS.iconst X0.here hx rfl (hb hby d3_46) k) ?_
                              show own_Go _ _ _ _ (s₁.setTop (mkF m 47 #[.val (.ref ar), .val (.int ln), .val (.int (7 : Int32))] [(.int (1 : Int32)), (.int (7 : Int32))]))
                              refine own_st (fun _ k => XS.iadd X0.here hx rfl (hb hby d3_47) rfl k) ?_
                              show own_Go _ _ _ _ (s₁.setTop (mkF m 48 #[.val (.ref ar), .val (.int ln), .val (.int (7 : Int32))] [(.int (8 : Int32))]))
                              obtain ⟨fs, hr, hrun, hended, hW, hsame⟩ := X0.leave (v := some (.int (8 : Int32))) (fun h => by rw [Bd.returns] at h; cases h)
                              refine own_out (own_retI X0 hx Bd.returns (hb hby d3_48) hr) ⟨hrun, hended, _, _, rfl, ?_, ⟨_, rfl⟩, hW, hsame.mono (by decide) (by decide)⟩
                              show Q3 Z ar kk ln v0 v1 v2 v3 v4 v5 v6 v7 h0 n0 _ s₁.heap _
                              have hv : own_end ln v0 v1 v2 v3 v4 v5 v6 v7 = (8 : Int32) := by
                                unfold own_end
                                rw [if_pos hc48, if_neg hj49, if_pos hc50, if_neg hj51, if_pos hc52, if_neg hj53, if_pos hc54, if_neg hj55, if_pos hc56, if_pos ⟨hc65, hc63, hc61, hc59⟩]
                              exact ⟨by rw [hv], N0, e0⟩
                            · skip
                              refine own_st (fun _ k => XS.icmpYes X0.here hx rfl (pc0 := 42) (pc' := 49) rfl (hb hby d3_42) rfl (feq hc65).2 (by decide) (by decide) k) ?_
                              show own_Go _ _ _ _ (s₁.setTop (mkF m 49 #[.val (.ref ar), .val (.int ln), .val (.int (7 : Int32))] []))
                              exact J57 () (fun q => hc65 q.1)
                          · skip
                            refine own_st (fun _ k => XS.icmpYes X0.here hx rfl (pc0 := 32) (pc' := 49) rfl (hb hby d3_32) rfl (feq hc63).2 (by decide) (by decide) k) ?_
                            show own_Go _ _ _ _ (s₁.setTop (mkF m 49 #[.val (.ref ar), .val (.int ln), .val (.int (7 : Int32))] []))
                            exact J57 () (fun q => hc63 q.2.1)
                        · skip
                          refine own_st (fun _ k => XS.icmpYes X0.here hx rfl (pc0 := 22) (pc' := 49) rfl (hb hby d3_22) rfl (feq hc61).2 (by decide) (by decide) k) ?_
                          show own_Go _ _ _ _ (s₁.setTop (mkF m 49 #[.val (.ref ar), .val (.int ln), .val (.int (7 : Int32))] []))
                          exact J57 () (fun q => hc61 q.2.2.1)
                      · skip
                        refine own_st (fun _ k => XS.icmpYes X0.here hx rfl (pc0 := 12) (pc' := 49) rfl (hb hby d3_12) rfl (feq hc59).2 (by decide) (by decide) k) ?_
                        show own_Go _ _ _ _ (s₁.setTop (mkF m 49 #[.val (.ref ar), .val (.int ln), .val (.int (7 : Int32))] []))
                        exact J57 () (fun q => hc59 q.2.2.2)
                  · skip
                    refine own_st (fun _ k => XS.icmpYes X0.here hx rfl (pc0 := 4) (pc' := 55) rfl (hb hby d3_4) rfl (flt hc56).2.1 (by decide) (by decide) k) ?_
                    show own_Go _ _ _ _ (s₁.setTop (mkF m 55 #[.val (.ref ar), .val (.int ln), .val (.int (7 : Int32))] []))
                    refine own_st (fun _ k => XS.iconst X0.here hx rfl (hb hby d3_55) k) ?_
                    show own_Go _ _ _ _ (s₁.setTop (mkF m 56 #[.val (.ref ar), .val (.int ln), .val (.int (7 : Int32))] [(.int (0 : Int32))]))
                    obtain ⟨fs, hr, hrun, hended, hW, hsame⟩ := X0.leave (v := some (.int (0 : Int32))) (fun h => by rw [Bd.returns] at h; cases h)
                    refine own_out (own_retI X0 hx Bd.returns (hb hby d3_56) hr) ⟨hrun, hended, _, _, rfl, ?_, ⟨_, rfl⟩, hW, hsame.mono (by decide) (by decide)⟩
                    show Q3 Z ar kk ln v0 v1 v2 v3 v4 v5 v6 v7 h0 n0 _ s₁.heap _
                    have hv : own_end ln v0 v1 v2 v3 v4 v5 v6 v7 = (0 : Int32) := by
                      unfold own_end
                      rw [if_pos hc48, if_neg hj49, if_pos hc50, if_neg hj51, if_pos hc52, if_neg hj53, if_pos hc54, if_neg hj55, if_neg hc56]
                    exact ⟨by rw [hv], N0, e0⟩
                · intro J55
                  show own_Go _ _ _ _ (s₁.setTop (mkF m 7 #[.val (.ref ar), .val (.int ln), .val (.int (6 : Int32))] []))
                  refine own_st (fun _ k => XS.aloadN X0.here hx rfl (hb hby d3_7) rfl rfl k) ?_
                  show own_Go _ _ _ _ (s₁.setTop (mkF m 8 #[.val (.ref ar), .val (.int ln), .val (.int (6 : Int32))] [(.ref ar)]))
                  refine own_st (fun _ k => XS.iloadN X0.here hx rfl (hb hby d3_8) rfl k) ?_
                  show own_Go _ _ _ _ (s₁.setTop (mkF m 9 #[.val (.ref ar), .val (.int ln), .val (.int (6 : Int32))] [(.int (6 : Int32)), (.ref ar)]))
                  obtain ⟨cl66, Ar66, -, Sz66, Nn66, Hs66, -⟩ := id V_ar
                  have hin66 : ¬ ((6 : Int32) < 0 ∨ cl66.slots.size ≤ ((6 : Int32)).toNatClampNeg) := inb_of Sz66 ⟨(by decide : ¬ ((6 : Int32) < (0 : Int32))), (by decide : (6 : Int32) < (8 : Int32))⟩
                  have hat66 : cl66.slots[((6 : Int32)).toNatClampNeg]? = some (.int v6) := Hs66.at hin66 rfl
                  refine own_st (X0.baloadBytes hx (j := (6 : Int32)) (v := (.int v6)) (by rw [e0]; exact Ar66.1) (State.isArrayOf_alike hZ.alike Ar66.2.1) Ar66.2.2 hin66 hat66 (g := (mkF m 9 #[.val (.ref ar), .val (.int ln), .val (.int (6 : Int32))] [(.int (6 : Int32)), (.ref ar)])) rfl rfl (hb hby d3_9)) ?_
                  show own_Go _ _ _ _ (s₁.setTop (mkF m 10 #[.val (.ref ar), .val (.int ln), .val (.int (6 : Int32))] [(.int v6)]))
                  refine own_st (fun _ k => XS.bipush X0.here hx rfl (hb hby d3_10) k) ?_
                  show own_Go _ _ _ _ (s₁.setTop (mkF m 12 #[.val (.ref ar), .val (.int ln), .val (.int (6 : Int32))] [(.int (10 : Int32)), (.int v6)]))
                  by_cases hc67 : v6 = (10 : Int32)
                  · skip
                    refine own_st (fun _ k => XS.icmpNo X0.here hx rfl (hb hby d3_12) rfl (teq hc67).2 k) ?_
                    show own_Go _ _ _ _ (s₁.setTop (mkF m 15 #[.val (.ref ar), .val (.int ln), .val (.int (6 : Int32))] []))
                    refine own_st (fun _ k => XS.aloadN X0.here hx rfl (hb hby d3_15) rfl rfl k) ?_
                    show own_Go _ _ _ _ (s₁.setTop (mkF m 16 #[.val (.ref ar), .val (.int ln), .val (.int (6 : Int32))] [(.ref ar)]))
                    refine own_st (fun _ k => XS.iloadN X0.here hx rfl (hb hby d3_16) rfl k) ?_
                    show own_Go _ _ _ _ (s₁.setTop (mkF m 17 #[.val (.ref ar), .val (.int ln), .val (.int (6 : Int32))] [(.int (6 : Int32)), (.ref ar)]))
                    refine own_st (fun _ k => XS.iconst X0.here hx rfl (hb hby d3_17) k) ?_
                    show own_Go _ _ _ _ (s₁.setTop (mkF m 18 #[.val (.ref ar), .val (.int ln), .val (.int (6 : Int32))] [(.int (1 : Int32)), (.int (6 : Int32)), (.ref ar)]))
                    refine own_st (fun _ k => XS.isub X0.here hx rfl (hb hby d3_18) rfl k) ?_
                    show own_Go _ _ _ _ (s₁.setTop (mkF m 19 #[.val (.ref ar), .val (.int ln), .val (.int (6 : Int32))] [(.int (5 : Int32)), (.ref ar)]))
                    obtain ⟨cl68, Ar68, -, Sz68, Nn68, Hs68, -⟩ := id V_ar
                    have hin68 : ¬ ((5 : Int32) < 0 ∨ cl68.slots.size ≤ ((5 : Int32)).toNatClampNeg) := inb_of Sz68 ⟨(by decide : ¬ ((5 : Int32) < (0 : Int32))), (by decide : (5 : Int32) < (8 : Int32))⟩
                    have hat68 : cl68.slots[((5 : Int32)).toNatClampNeg]? = some (.int v5) := Hs68.at hin68 rfl
                    refine own_st (X0.baloadBytes hx (j := (5 : Int32)) (v := (.int v5)) (by rw [e0]; exact Ar68.1) (State.isArrayOf_alike hZ.alike Ar68.2.1) Ar68.2.2 hin68 hat68 (g := (mkF m 19 #[.val (.ref ar), .val (.int ln), .val (.int (6 : Int32))] [(.int (5 : Int32)), (.ref ar)])) rfl rfl (hb hby d3_19)) ?_
                    show own_Go _ _ _ _ (s₁.setTop (mkF m 20 #[.val (.ref ar), .val (.int ln), .val (.int (6 : Int32))] [(.int v5)]))
                    refine own_st (fun _ k => XS.bipush X0.here hx rfl (hb hby d3_20) k) ?_
                    show own_Go _ _ _ _ (s₁.setTop (mkF m 22 #[.val (.ref ar), .val (.int ln), .val (.int (6 : Int32))] [(.int (13 : Int32)), (.int v5)]))
                    by_cases hc69 : v5 = (13 : Int32)
                    · skip
                      refine own_st (fun _ k => XS.icmpNo X0.here hx rfl (hb hby d3_22) rfl (teq hc69).2 k) ?_
                      show own_Go _ _ _ _ (s₁.setTop (mkF m 25 #[.val (.ref ar), .val (.int ln), .val (.int (6 : Int32))] []))
                      refine own_st (fun _ k => XS.aloadN X0.here hx rfl (hb hby d3_25) rfl rfl k) ?_
                      show own_Go _ _ _ _ (s₁.setTop (mkF m 26 #[.val (.ref ar), .val (.int ln), .val (.int (6 : Int32))] [(.ref ar)]))
                      refine own_st (fun _ k => XS.iloadN X0.here hx rfl (hb hby d3_26) rfl k) ?_
                      show own_Go _ _ _ _ (s₁.setTop (mkF m 27 #[.val (.ref ar), .val (.int ln), .val (.int (6 : Int32))] [(.int (6 : Int32)), (.ref ar)]))
                      refine own_st (fun _ k => XS.iconst X0.here hx rfl (hb hby d3_27) k) ?_
                      show own_Go _ _ _ _ (s₁.setTop (mkF m 28 #[.val (.ref ar), .val (.int ln), .val (.int (6 : Int32))] [(.int (2 : Int32)), (.int (6 : Int32)), (.ref ar)]))
                      refine own_st (fun _ k => XS.isub X0.here hx rfl (hb hby d3_28) rfl k) ?_
                      show own_Go _ _ _ _ (s₁.setTop (mkF m 29 #[.val (.ref ar), .val (.int ln), .val (.int (6 : Int32))] [(.int (4 : Int32)), (.ref ar)]))
                      obtain ⟨cl70, Ar70, -, Sz70, Nn70, Hs70, -⟩ := id V_ar
                      have hin70 : ¬ ((4 : Int32) < 0 ∨ cl70.slots.size ≤ ((4 : Int32)).toNatClampNeg) := inb_of Sz70 ⟨(by decide : ¬ ((4 : Int32) < (0 : Int32))), (by decide : (4 : Int32) < (8 : Int32))⟩
                      have hat70 : cl70.slots[((4 : Int32)).toNatClampNeg]? = some (.int v4) := Hs70.at hin70 rfl
                      refine own_st (X0.baloadBytes hx (j := (4 : Int32)) (v := (.int v4)) (by rw [e0]; exact Ar70.1) (State.isArrayOf_alike hZ.alike Ar70.2.1) Ar70.2.2 hin70 hat70 (g := (mkF m 29 #[.val (.ref ar), .val (.int ln), .val (.int (6 : Int32))] [(.int (4 : Int32)), (.ref ar)])) rfl rfl (hb hby d3_29)) ?_
                      show own_Go _ _ _ _ (s₁.setTop (mkF m 30 #[.val (.ref ar), .val (.int ln), .val (.int (6 : Int32))] [(.int v4)]))
                      refine own_st (fun _ k => XS.bipush X0.here hx rfl (hb hby d3_30) k) ?_
                      show own_Go _ _ _ _ (s₁.setTop (mkF m 32 #[.val (.ref ar), .val (.int ln), .val (.int (6 : Int32))] [(.int (10 : Int32)), (.int v4)]))
                      by_cases hc71 : v4 = (10 : Int32)
                      · skip
                        refine own_st (fun _ k => XS.icmpNo X0.here hx rfl (hb hby d3_32) rfl (teq hc71).2 k) ?_
                        show own_Go _ _ _ _ (s₁.setTop (mkF m 35 #[.val (.ref ar), .val (.int ln), .val (.int (6 : Int32))] []))
                        refine own_st (fun _ k => XS.aloadN X0.here hx rfl (hb hby d3_35) rfl rfl k) ?_
                        show own_Go _ _ _ _ (s₁.setTop (mkF m 36 #[.val (.ref ar), .val (.int ln), .val (.int (6 : Int32))] [(.ref ar)]))
                        refine own_st (fun _ k => XS.iloadN X0.here hx rfl (hb hby d3_36) rfl k) ?_
                        show own_Go _ _ _ _ (s₁.setTop (mkF m 37 #[.val (.ref ar), .val (.int ln), .val (.int (6 : Int32))] [(.int (6 : Int32)), (.ref ar)]))
                        refine own_st (fun _ k => XS.iconst X0.here hx rfl (hb hby d3_37) k) ?_
                        show own_Go _ _ _ _ (s₁.setTop (mkF m 38 #[.val (.ref ar), .val (.int ln), .val (.int (6 : Int32))] [(.int (3 : Int32)), (.int (6 : Int32)), (.ref ar)]))
                        refine own_st (fun _ k => XS.isub X0.here hx rfl (hb hby d3_38) rfl k) ?_
                        show own_Go _ _ _ _ (s₁.setTop (mkF m 39 #[.val (.ref ar), .val (.int ln), .val (.int (6 : Int32))] [(.int (3 : Int32)), (.ref ar)]))
                        obtain ⟨cl72, Ar72, -, Sz72, Nn72, Hs72, -⟩ := id V_ar
                        have hin72 : ¬ ((3 : Int32) < 0 ∨ cl72.slots.size ≤ ((3 : Int32)).toNatClampNeg) := inb_of Sz72 ⟨(by decide : ¬ ((3 : Int32) < (0 : Int32))), (by decide : (3 : Int32) < (8 : Int32))⟩
                        have hat72 : cl72.slots[((3 : Int32)).toNatClampNeg]? = some (.int v3) := Hs72.at hin72 rfl
                        refine own_st (X0.baloadBytes hx (j := (3 : Int32)) (v := (.int v3)) (by rw [e0]; exact Ar72.1) (State.isArrayOf_alike hZ.alike Ar72.2.1) Ar72.2.2 hin72 hat72 (g := (mkF m 39 #[.val (.ref ar), .val (.int ln), .val (.int (6 : Int32))] [(.int (3 : Int32)), (.ref ar)])) rfl rfl (hb hby d3_39)) ?_
                        show own_Go _ _ _ _ (s₁.setTop (mkF m 40 #[.val (.ref ar), .val (.int ln), .val (.int (6 : Int32))] [(.int v3)]))
                        refine own_st (fun _ k => XS.bipush X0.here hx rfl (hb hby d3_40) k) ?_
                        show own_Go _ _ _ _ (s₁.setTop (mkF m 42 #[.val (.ref ar), .val (.int ln), .val (.int (6 : Int32))] [(.int (13 : Int32)), (.int v3)]))
                        by_cases hc73 : v3 = (13 : Int32)
                        · skip
                          refine own_st (fun _ k => XS.icmpNo X0.here hx rfl (hb hby d3_42) rfl (teq hc73).2 k) ?_
                          show own_Go _ _ _ _ (s₁.setTop (mkF m 45 #[.val (.ref ar), .val (.int ln), .val (.int (6 : Int32))] []))
                          refine own_st (fun _ k => XS.iloadN X0.here hx rfl (hb hby d3_45) rfl k) ?_
                          show own_Go _ _ _ _ (s₁.setTop (mkF m 46 #[.val (.ref ar), .val (.int ln), .val (.int (6 : Int32))] [(.int (6 : Int32))]))
                          refine own_st (fun _ k => XS.iconst X0.here hx rfl (hb hby d3_46) k) ?_
                          show own_Go _ _ _ _ (s₁.setTop (mkF m 47 #[.val (.ref ar), .val (.int ln), .val (.int (6 : Int32))] [(.int (1 : Int32)), (.int (6 : Int32))]))
                          refine own_st (fun _ k => XS.iadd X0.here hx rfl (hb hby d3_47) rfl k) ?_
                          show own_Go _ _ _ _ (s₁.setTop (mkF m 48 #[.val (.ref ar), .val (.int ln), .val (.int (6 : Int32))] [(.int (7 : Int32))]))
                          obtain ⟨fs, hr, hrun, hended, hW, hsame⟩ := X0.leave (v := some (.int (7 : Int32))) (fun h => by rw [Bd.returns] at h; cases h)
                          refine own_out (own_retI X0 hx Bd.returns (hb hby d3_48) hr) ⟨hrun, hended, _, _, rfl, ?_, ⟨_, rfl⟩, hW, hsame.mono (by decide) (by decide)⟩
                          show Q3 Z ar kk ln v0 v1 v2 v3 v4 v5 v6 v7 h0 n0 _ s₁.heap _
                          have hv : own_end ln v0 v1 v2 v3 v4 v5 v6 v7 = (7 : Int32) := by
                            unfold own_end
                            rw [if_pos hc48, if_neg hj49, if_pos hc50, if_neg hj51, if_pos hc52, if_neg hj53, if_pos hc54, if_pos ⟨hc73, hc71, hc69, hc67⟩]
                          exact ⟨by rw [hv], N0, e0⟩
                        · skip
                          refine own_st (fun _ k => XS.icmpYes X0.here hx rfl (pc0 := 42) (pc' := 49) rfl (hb hby d3_42) rfl (feq hc73).2 (by decide) (by decide) k) ?_
                          show own_Go _ _ _ _ (s₁.setTop (mkF m 49 #[.val (.ref ar), .val (.int ln), .val (.int (6 : Int32))] []))
                          exact J55 () (fun q => hc73 q.1)
                      · skip
                        refine own_st (fun _ k => XS.icmpYes X0.here hx rfl (pc0 := 32) (pc' := 49) rfl (hb hby d3_32) rfl (feq hc71).2 (by decide) (by decide) k) ?_
                        show own_Go _ _ _ _ (s₁.setTop (mkF m 49 #[.val (.ref ar), .val (.int ln), .val (.int (6 : Int32))] []))
                        exact J55 () (fun q => hc71 q.2.1)
                    · skip
                      refine own_st (fun _ k => XS.icmpYes X0.here hx rfl (pc0 := 22) (pc' := 49) rfl (hb hby d3_22) rfl (feq hc69).2 (by decide) (by decide) k) ?_
                      show own_Go _ _ _ _ (s₁.setTop (mkF m 49 #[.val (.ref ar), .val (.int ln), .val (.int (6 : Int32))] []))
                      exact J55 () (fun q => hc69 q.2.2.1)
                  · skip
                    refine own_st (fun _ k => XS.icmpYes X0.here hx rfl (pc0 := 12) (pc' := 49) rfl (hb hby d3_12) rfl (feq hc67).2 (by decide) (by decide) k) ?_
                    show own_Go _ _ _ _ (s₁.setTop (mkF m 49 #[.val (.ref ar), .val (.int ln), .val (.int (6 : Int32))] []))
                    exact J55 () (fun q => hc67 q.2.2.2)
              · skip
                refine own_st (fun _ k => XS.icmpYes X0.here hx rfl (pc0 := 4) (pc' := 55) rfl (hb hby d3_4) rfl (flt hc54).2.1 (by decide) (by decide) k) ?_
                show own_Go _ _ _ _ (s₁.setTop (mkF m 55 #[.val (.ref ar), .val (.int ln), .val (.int (6 : Int32))] []))
                refine own_st (fun _ k => XS.iconst X0.here hx rfl (hb hby d3_55) k) ?_
                show own_Go _ _ _ _ (s₁.setTop (mkF m 56 #[.val (.ref ar), .val (.int ln), .val (.int (6 : Int32))] [(.int (0 : Int32))]))
                obtain ⟨fs, hr, hrun, hended, hW, hsame⟩ := X0.leave (v := some (.int (0 : Int32))) (fun h => by rw [Bd.returns] at h; cases h)
                refine own_out (own_retI X0 hx Bd.returns (hb hby d3_56) hr) ⟨hrun, hended, _, _, rfl, ?_, ⟨_, rfl⟩, hW, hsame.mono (by decide) (by decide)⟩
                show Q3 Z ar kk ln v0 v1 v2 v3 v4 v5 v6 v7 h0 n0 _ s₁.heap _
                have hv : own_end ln v0 v1 v2 v3 v4 v5 v6 v7 = (0 : Int32) := by
                  unfold own_end
                  rw [if_pos hc48, if_neg hj49, if_pos hc50, if_neg hj51, if_pos hc52, if_neg hj53, if_neg hc54]
                exact ⟨by rw [hv], N0, e0⟩
            · intro J53
              show own_Go _ _ _ _ (s₁.setTop (mkF m 7 #[.val (.ref ar), .val (.int ln), .val (.int (5 : Int32))] []))
              refine own_st (fun _ k => XS.aloadN X0.here hx rfl (hb hby d3_7) rfl rfl k) ?_
              show own_Go _ _ _ _ (s₁.setTop (mkF m 8 #[.val (.ref ar), .val (.int ln), .val (.int (5 : Int32))] [(.ref ar)]))
              refine own_st (fun _ k => XS.iloadN X0.here hx rfl (hb hby d3_8) rfl k) ?_
              show own_Go _ _ _ _ (s₁.setTop (mkF m 9 #[.val (.ref ar), .val (.int ln), .val (.int (5 : Int32))] [(.int (5 : Int32)), (.ref ar)]))
              obtain ⟨cl74, Ar74, -, Sz74, Nn74, Hs74, -⟩ := id V_ar
              have hin74 : ¬ ((5 : Int32) < 0 ∨ cl74.slots.size ≤ ((5 : Int32)).toNatClampNeg) := inb_of Sz74 ⟨(by decide : ¬ ((5 : Int32) < (0 : Int32))), (by decide : (5 : Int32) < (8 : Int32))⟩
              have hat74 : cl74.slots[((5 : Int32)).toNatClampNeg]? = some (.int v5) := Hs74.at hin74 rfl
              refine own_st (X0.baloadBytes hx (j := (5 : Int32)) (v := (.int v5)) (by rw [e0]; exact Ar74.1) (State.isArrayOf_alike hZ.alike Ar74.2.1) Ar74.2.2 hin74 hat74 (g := (mkF m 9 #[.val (.ref ar), .val (.int ln), .val (.int (5 : Int32))] [(.int (5 : Int32)), (.ref ar)])) rfl rfl (hb hby d3_9)) ?_
              show own_Go _ _ _ _ (s₁.setTop (mkF m 10 #[.val (.ref ar), .val (.int ln), .val (.int (5 : Int32))] [(.int v5)]))
              refine own_st (fun _ k => XS.bipush X0.here hx rfl (hb hby d3_10) k) ?_
              show own_Go _ _ _ _ (s₁.setTop (mkF m 12 #[.val (.ref ar), .val (.int ln), .val (.int (5 : Int32))] [(.int (10 : Int32)), (.int v5)]))
              by_cases hc75 : v5 = (10 : Int32)
              · skip
                refine own_st (fun _ k => XS.icmpNo X0.here hx rfl (hb hby d3_12) rfl (teq hc75).2 k) ?_
                show own_Go _ _ _ _ (s₁.setTop (mkF m 15 #[.val (.ref ar), .val (.int ln), .val (.int (5 : Int32))] []))
                refine own_st (fun _ k => XS.aloadN X0.here hx rfl (hb hby d3_15) rfl rfl k) ?_
                show own_Go _ _ _ _ (s₁.setTop (mkF m 16 #[.val (.ref ar), .val (.int ln), .val (.int (5 : Int32))] [(.ref ar)]))
                refine own_st (fun _ k => XS.iloadN X0.here hx rfl (hb hby d3_16) rfl k) ?_
                show own_Go _ _ _ _ (s₁.setTop (mkF m 17 #[.val (.ref ar), .val (.int ln), .val (.int (5 : Int32))] [(.int (5 : Int32)), (.ref ar)]))
                refine own_st (fun _ k => XS.iconst X0.here hx rfl (hb hby d3_17) k) ?_
                show own_Go _ _ _ _ (s₁.setTop (mkF m 18 #[.val (.ref ar), .val (.int ln), .val (.int (5 : Int32))] [(.int (1 : Int32)), (.int (5 : Int32)), (.ref ar)]))
                refine own_st (fun _ k => XS.isub X0.here hx rfl (hb hby d3_18) rfl k) ?_
                show own_Go _ _ _ _ (s₁.setTop (mkF m 19 #[.val (.ref ar), .val (.int ln), .val (.int (5 : Int32))] [(.int (4 : Int32)), (.ref ar)]))
                obtain ⟨cl76, Ar76, -, Sz76, Nn76, Hs76, -⟩ := id V_ar
                have hin76 : ¬ ((4 : Int32) < 0 ∨ cl76.slots.size ≤ ((4 : Int32)).toNatClampNeg) := inb_of Sz76 ⟨(by decide : ¬ ((4 : Int32) < (0 : Int32))), (by decide : (4 : Int32) < (8 : Int32))⟩
                have hat76 : cl76.slots[((4 : Int32)).toNatClampNeg]? = some (.int v4) := Hs76.at hin76 rfl
                refine own_st (X0.baloadBytes hx (j := (4 : Int32)) (v := (.int v4)) (by rw [e0]; exact Ar76.1) (State.isArrayOf_alike hZ.alike Ar76.2.1) Ar76.2.2 hin76 hat76 (g := (mkF m 19 #[.val (.ref ar), .val (.int ln), .val (.int (5 : Int32))] [(.int (4 : Int32)), (.ref ar)])) rfl rfl (hb hby d3_19)) ?_
                show own_Go _ _ _ _ (s₁.setTop (mkF m 20 #[.val (.ref ar), .val (.int ln), .val (.int (5 : Int32))] [(.int v4)]))
                refine own_st (fun _ k => XS.bipush X0.here hx rfl (hb hby d3_20) k) ?_
                show own_Go _ _ _ _ (s₁.setTop (mkF m 22 #[.val (.ref ar), .val (.int ln), .val (.int (5 : Int32))] [(.int (13 : Int32)), (.int v4)]))
                by_cases hc77 : v4 = (13 : Int32)
                · skip
                  refine own_st (fun _ k => XS.icmpNo X0.here hx rfl (hb hby d3_22) rfl (teq hc77).2 k) ?_
                  show own_Go _ _ _ _ (s₁.setTop (mkF m 25 #[.val (.ref ar), .val (.int ln), .val (.int (5 : Int32))] []))
                  refine own_st (fun _ k => XS.aloadN X0.here hx rfl (hb hby d3_25) rfl rfl k) ?_
                  show own_Go _ _ _ _ (s₁.setTop (mkF m 26 #[.val (.ref ar), .val (.int ln), .val (.int (5 : Int32))] [(.ref ar)]))
                  refine own_st (fun _ k => XS.iloadN X0.here hx rfl (hb hby d3_26) rfl k) ?_
                  show own_Go _ _ _ _ (s₁.setTop (mkF m 27 #[.val (.ref ar), .val (.int ln), .val (.int (5 : Int32))] [(.int (5 : Int32)), (.ref ar)]))
                  refine own_st (fun _ k => XS.iconst X0.here hx rfl (hb hby d3_27) k) ?_
                  show own_Go _ _ _ _ (s₁.setTop (mkF m 28 #[.val (.ref ar), .val (.int ln), .val (.int (5 : Int32))] [(.int (2 : Int32)), (.int (5 : Int32)), (.ref ar)]))
                  refine own_st (fun _ k => XS.isub X0.here hx rfl (hb hby d3_28) rfl k) ?_
                  show own_Go _ _ _ _ (s₁.setTop (mkF m 29 #[.val (.ref ar), .val (.int ln), .val (.int (5 : Int32))] [(.int (3 : Int32)), (.ref ar)]))
                  obtain ⟨cl78, Ar78, -, Sz78, Nn78, Hs78, -⟩ := id V_ar
                  have hin78 : ¬ ((3 : Int32) < 0 ∨ cl78.slots.size ≤ ((3 : Int32)).toNatClampNeg) := inb_of Sz78 ⟨(by decide : ¬ ((3 : Int32) < (0 : Int32))), (by decide : (3 : Int32) < (8 : Int32))⟩
                  have hat78 : cl78.slots[((3 : Int32)).toNatClampNeg]? = some (.int v3) := Hs78.at hin78 rfl
                  refine own_st (X0.baloadBytes hx (j := (3 : Int32)) (v := (.int v3)) (by rw [e0]; exact Ar78.1) (State.isArrayOf_alike hZ.alike Ar78.2.1) Ar78.2.2 hin78 hat78 (g := (mkF m 29 #[.val (.ref ar), .val (.int ln), .val (.int (5 : Int32))] [(.int (3 : Int32)), (.ref ar)])) rfl rfl (hb hby d3_29)) ?_
                  show own_Go _ _ _ _ (s₁.setTop (mkF m 30 #[.val (.ref ar), .val (.int ln), .val (.int (5 : Int32))] [(.int v3)]))
                  refine own_st (fun _ k => XS.bipush X0.here hx rfl (hb hby d3_30) k) ?_
                  show own_Go _ _ _ _ (s₁.setTop (mkF m 32 #[.val (.ref ar), .val (.int ln), .val (.int (5 : Int32))] [(.int (10 : Int32)), (.int v3)]))
                  by_cases hc79 : v3 = (10 : Int32)
                  · skip
                    refine own_st (fun _ k => XS.icmpNo X0.here hx rfl (hb hby d3_32) rfl (teq hc79).2 k) ?_
                    show own_Go _ _ _ _ (s₁.setTop (mkF m 35 #[.val (.ref ar), .val (.int ln), .val (.int (5 : Int32))] []))
                    refine own_st (fun _ k => XS.aloadN X0.here hx rfl (hb hby d3_35) rfl rfl k) ?_
                    show own_Go _ _ _ _ (s₁.setTop (mkF m 36 #[.val (.ref ar), .val (.int ln), .val (.int (5 : Int32))] [(.ref ar)]))
                    refine own_st (fun _ k => XS.iloadN X0.here hx rfl (hb hby d3_36) rfl k) ?_
                    show own_Go _ _ _ _ (s₁.setTop (mkF m 37 #[.val (.ref ar), .val (.int ln), .val (.int (5 : Int32))] [(.int (5 : Int32)), (.ref ar)]))
                    refine own_st (fun _ k => XS.iconst X0.here hx rfl (hb hby d3_37) k) ?_
                    show own_Go _ _ _ _ (s₁.setTop (mkF m 38 #[.val (.ref ar), .val (.int ln), .val (.int (5 : Int32))] [(.int (3 : Int32)), (.int (5 : Int32)), (.ref ar)]))
                    refine own_st (fun _ k => XS.isub X0.here hx rfl (hb hby d3_38) rfl k) ?_
                    show own_Go _ _ _ _ (s₁.setTop (mkF m 39 #[.val (.ref ar), .val (.int ln), .val (.int (5 : Int32))] [(.int (2 : Int32)), (.ref ar)]))
                    obtain ⟨cl80, Ar80, -, Sz80, Nn80, Hs80, -⟩ := id V_ar
                    have hin80 : ¬ ((2 : Int32) < 0 ∨ cl80.slots.size ≤ ((2 : Int32)).toNatClampNeg) := inb_of Sz80 ⟨(by decide : ¬ ((2 : Int32) < (0 : Int32))), (by decide : (2 : Int32) < (8 : Int32))⟩
                    have hat80 : cl80.slots[((2 : Int32)).toNatClampNeg]? = some (.int v2) := Hs80.at hin80 rfl
                    refine own_st (X0.baloadBytes hx (j := (2 : Int32)) (v := (.int v2)) (by rw [e0]; exact Ar80.1) (State.isArrayOf_alike hZ.alike Ar80.2.1) Ar80.2.2 hin80 hat80 (g := (mkF m 39 #[.val (.ref ar), .val (.int ln), .val (.int (5 : Int32))] [(.int (2 : Int32)), (.ref ar)])) rfl rfl (hb hby d3_39)) ?_
                    show own_Go _ _ _ _ (s₁.setTop (mkF m 40 #[.val (.ref ar), .val (.int ln), .val (.int (5 : Int32))] [(.int v2)]))
                    refine own_st (fun _ k => XS.bipush X0.here hx rfl (hb hby d3_40) k) ?_
                    show own_Go _ _ _ _ (s₁.setTop (mkF m 42 #[.val (.ref ar), .val (.int ln), .val (.int (5 : Int32))] [(.int (13 : Int32)), (.int v2)]))
                    by_cases hc81 : v2 = (13 : Int32)
                    · skip
                      refine own_st (fun _ k => XS.icmpNo X0.here hx rfl (hb hby d3_42) rfl (teq hc81).2 k) ?_
                      show own_Go _ _ _ _ (s₁.setTop (mkF m 45 #[.val (.ref ar), .val (.int ln), .val (.int (5 : Int32))] []))
                      refine own_st (fun _ k => XS.iloadN X0.here hx rfl (hb hby d3_45) rfl k) ?_
                      show own_Go _ _ _ _ (s₁.setTop (mkF m 46 #[.val (.ref ar), .val (.int ln), .val (.int (5 : Int32))] [(.int (5 : Int32))]))
                      refine own_st (fun _ k => XS.iconst X0.here hx rfl (hb hby d3_46) k) ?_
                      show own_Go _ _ _ _ (s₁.setTop (mkF m 47 #[.val (.ref ar), .val (.int ln), .val (.int (5 : Int32))] [(.int (1 : Int32)), (.int (5 : Int32))]))
                      refine own_st (fun _ k => XS.iadd X0.here hx rfl (hb hby d3_47) rfl k) ?_
                      show own_Go _ _ _ _ (s₁.setTop (mkF m 48 #[.val (.ref ar), .val (.int ln), .val (.int (5 : Int32))] [(.int (6 : Int32))]))
                      obtain ⟨fs, hr, hrun, hended, hW, hsame⟩ := X0.leave (v := some (.int (6 : Int32))) (fun h => by rw [Bd.returns] at h; cases h)
                      refine own_out (own_retI X0 hx Bd.returns (hb hby d3_48) hr) ⟨hrun, hended, _, _, rfl, ?_, ⟨_, rfl⟩, hW, hsame.mono (by decide) (by decide)⟩
                      show Q3 Z ar kk ln v0 v1 v2 v3 v4 v5 v6 v7 h0 n0 _ s₁.heap _
                      have hv : own_end ln v0 v1 v2 v3 v4 v5 v6 v7 = (6 : Int32) := by
                        unfold own_end
                        rw [if_pos hc48, if_neg hj49, if_pos hc50, if_neg hj51, if_pos hc52, if_pos ⟨hc81, hc79, hc77, hc75⟩]
                      exact ⟨by rw [hv], N0, e0⟩
                    · skip
                      refine own_st (fun _ k => XS.icmpYes X0.here hx rfl (pc0 := 42) (pc' := 49) rfl (hb hby d3_42) rfl (feq hc81).2 (by decide) (by decide) k) ?_
                      show own_Go _ _ _ _ (s₁.setTop (mkF m 49 #[.val (.ref ar), .val (.int ln), .val (.int (5 : Int32))] []))
                      exact J53 () (fun q => hc81 q.1)
                  · skip
                    refine own_st (fun _ k => XS.icmpYes X0.here hx rfl (pc0 := 32) (pc' := 49) rfl (hb hby d3_32) rfl (feq hc79).2 (by decide) (by decide) k) ?_
                    show own_Go _ _ _ _ (s₁.setTop (mkF m 49 #[.val (.ref ar), .val (.int ln), .val (.int (5 : Int32))] []))
                    exact J53 () (fun q => hc79 q.2.1)
                · skip
                  refine own_st (fun _ k => XS.icmpYes X0.here hx rfl (pc0 := 22) (pc' := 49) rfl (hb hby d3_22) rfl (feq hc77).2 (by decide) (by decide) k) ?_
                  show own_Go _ _ _ _ (s₁.setTop (mkF m 49 #[.val (.ref ar), .val (.int ln), .val (.int (5 : Int32))] []))
                  exact J53 () (fun q => hc77 q.2.2.1)
              · skip
                refine own_st (fun _ k => XS.icmpYes X0.here hx rfl (pc0 := 12) (pc' := 49) rfl (hb hby d3_12) rfl (feq hc75).2 (by decide) (by decide) k) ?_
                show own_Go _ _ _ _ (s₁.setTop (mkF m 49 #[.val (.ref ar), .val (.int ln), .val (.int (5 : Int32))] []))
                exact J53 () (fun q => hc75 q.2.2.2)
          · skip
            refine own_st (fun _ k => XS.icmpYes X0.here hx rfl (pc0 := 4) (pc' := 55) rfl (hb hby d3_4) rfl (flt hc52).2.1 (by decide) (by decide) k) ?_
            show own_Go _ _ _ _ (s₁.setTop (mkF m 55 #[.val (.ref ar), .val (.int ln), .val (.int (5 : Int32))] []))
            refine own_st (fun _ k => XS.iconst X0.here hx rfl (hb hby d3_55) k) ?_
            show own_Go _ _ _ _ (s₁.setTop (mkF m 56 #[.val (.ref ar), .val (.int ln), .val (.int (5 : Int32))] [(.int (0 : Int32))]))
            obtain ⟨fs, hr, hrun, hended, hW, hsame⟩ := X0.leave (v := some (.int (0 : Int32))) (fun h => by rw [Bd.returns] at h; cases h)
            refine own_out (own_retI X0 hx Bd.returns (hb hby d3_56) hr) ⟨hrun, hended, _, _, rfl, ?_, ⟨_, rfl⟩, hW, hsame.mono (by decide) (by decide)⟩
            show Q3 Z ar kk ln v0 v1 v2 v3 v4 v5 v6 v7 h0 n0 _ s₁.heap _
            have hv : own_end ln v0 v1 v2 v3 v4 v5 v6 v7 = (0 : Int32) := by
              unfold own_end
              rw [if_pos hc48, if_neg hj49, if_pos hc50, if_neg hj51, if_neg hc52]
            exact ⟨by rw [hv], N0, e0⟩
        · intro J51
          show own_Go _ _ _ _ (s₁.setTop (mkF m 7 #[.val (.ref ar), .val (.int ln), .val (.int (4 : Int32))] []))
          refine own_st (fun _ k => XS.aloadN X0.here hx rfl (hb hby d3_7) rfl rfl k) ?_
          show own_Go _ _ _ _ (s₁.setTop (mkF m 8 #[.val (.ref ar), .val (.int ln), .val (.int (4 : Int32))] [(.ref ar)]))
          refine own_st (fun _ k => XS.iloadN X0.here hx rfl (hb hby d3_8) rfl k) ?_
          show own_Go _ _ _ _ (s₁.setTop (mkF m 9 #[.val (.ref ar), .val (.int ln), .val (.int (4 : Int32))] [(.int (4 : Int32)), (.ref ar)]))
          obtain ⟨cl82, Ar82, -, Sz82, Nn82, Hs82, -⟩ := id V_ar
          have hin82 : ¬ ((4 : Int32) < 0 ∨ cl82.slots.size ≤ ((4 : Int32)).toNatClampNeg) := inb_of Sz82 ⟨(by decide : ¬ ((4 : Int32) < (0 : Int32))), (by decide : (4 : Int32) < (8 : Int32))⟩
          have hat82 : cl82.slots[((4 : Int32)).toNatClampNeg]? = some (.int v4) := Hs82.at hin82 rfl
          refine own_st (X0.baloadBytes hx (j := (4 : Int32)) (v := (.int v4)) (by rw [e0]; exact Ar82.1) (State.isArrayOf_alike hZ.alike Ar82.2.1) Ar82.2.2 hin82 hat82 (g := (mkF m 9 #[.val (.ref ar), .val (.int ln), .val (.int (4 : Int32))] [(.int (4 : Int32)), (.ref ar)])) rfl rfl (hb hby d3_9)) ?_
          show own_Go _ _ _ _ (s₁.setTop (mkF m 10 #[.val (.ref ar), .val (.int ln), .val (.int (4 : Int32))] [(.int v4)]))
          refine own_st (fun _ k => XS.bipush X0.here hx rfl (hb hby d3_10) k) ?_
          show own_Go _ _ _ _ (s₁.setTop (mkF m 12 #[.val (.ref ar), .val (.int ln), .val (.int (4 : Int32))] [(.int (10 : Int32)), (.int v4)]))
          by_cases hc83 : v4 = (10 : Int32)
          · skip
            refine own_st (fun _ k => XS.icmpNo X0.here hx rfl (hb hby d3_12) rfl (teq hc83).2 k) ?_
            show own_Go _ _ _ _ (s₁.setTop (mkF m 15 #[.val (.ref ar), .val (.int ln), .val (.int (4 : Int32))] []))
            refine own_st (fun _ k => XS.aloadN X0.here hx rfl (hb hby d3_15) rfl rfl k) ?_
            show own_Go _ _ _ _ (s₁.setTop (mkF m 16 #[.val (.ref ar), .val (.int ln), .val (.int (4 : Int32))] [(.ref ar)]))
            refine own_st (fun _ k => XS.iloadN X0.here hx rfl (hb hby d3_16) rfl k) ?_
            show own_Go _ _ _ _ (s₁.setTop (mkF m 17 #[.val (.ref ar), .val (.int ln), .val (.int (4 : Int32))] [(.int (4 : Int32)), (.ref ar)]))
            refine own_st (fun _ k => XS.iconst X0.here hx rfl (hb hby d3_17) k) ?_
            show own_Go _ _ _ _ (s₁.setTop (mkF m 18 #[.val (.ref ar), .val (.int ln), .val (.int (4 : Int32))] [(.int (1 : Int32)), (.int (4 : Int32)), (.ref ar)]))
            refine own_st (fun _ k => XS.isub X0.here hx rfl (hb hby d3_18) rfl k) ?_
            show own_Go _ _ _ _ (s₁.setTop (mkF m 19 #[.val (.ref ar), .val (.int ln), .val (.int (4 : Int32))] [(.int (3 : Int32)), (.ref ar)]))
            obtain ⟨cl84, Ar84, -, Sz84, Nn84, Hs84, -⟩ := id V_ar
            have hin84 : ¬ ((3 : Int32) < 0 ∨ cl84.slots.size ≤ ((3 : Int32)).toNatClampNeg) := inb_of Sz84 ⟨(by decide : ¬ ((3 : Int32) < (0 : Int32))), (by decide : (3 : Int32) < (8 : Int32))⟩
            have hat84 : cl84.slots[((3 : Int32)).toNatClampNeg]? = some (.int v3) := Hs84.at hin84 rfl
            refine own_st (X0.baloadBytes hx (j := (3 : Int32)) (v := (.int v3)) (by rw [e0]; exact Ar84.1) (State.isArrayOf_alike hZ.alike Ar84.2.1) Ar84.2.2 hin84 hat84 (g := (mkF m 19 #[.val (.ref ar), .val (.int ln), .val (.int (4 : Int32))] [(.int (3 : Int32)), (.ref ar)])) rfl rfl (hb hby d3_19)) ?_
            show own_Go _ _ _ _ (s₁.setTop (mkF m 20 #[.val (.ref ar), .val (.int ln), .val (.int (4 : Int32))] [(.int v3)]))
            refine own_st (fun _ k => XS.bipush X0.here hx rfl (hb hby d3_20) k) ?_
            show own_Go _ _ _ _ (s₁.setTop (mkF m 22 #[.val (.ref ar), .val (.int ln), .val (.int (4 : Int32))] [(.int (13 : Int32)), (.int v3)]))
            by_cases hc85 : v3 = (13 : Int32)
            · skip
              refine own_st (fun _ k => XS.icmpNo X0.here hx rfl (hb hby d3_22) rfl (teq hc85).2 k) ?_
              show own_Go _ _ _ _ (s₁.setTop (mkF m 25 #[.val (.ref ar), .val (.int ln), .val (.int (4 : Int32))] []))
              refine own_st (fun _ k => XS.aloadN X0.here hx rfl (hb hby d3_25) rfl rfl k) ?_
              show own_Go _ _ _ _ (s₁.setTop (mkF m 26 #[.val (.ref ar), .val (.int ln), .val (.int (4 : Int32))] [(.ref ar)]))
              refine own_st (fun _ k => XS.iloadN X0.here hx rfl (hb hby d3_26) rfl k) ?_
              show own_Go _ _ _ _ (s₁.setTop (mkF m 27 #[.val (.ref ar), .val (.int ln), .val (.int (4 : Int32))] [(.int (4 : Int32)), (.ref ar)]))
              refine own_st (fun _ k => XS.iconst X0.here hx rfl (hb hby d3_27) k) ?_
              show own_Go _ _ _ _ (s₁.setTop (mkF m 28 #[.val (.ref ar), .val (.int ln), .val (.int (4 : Int32))] [(.int (2 : Int32)), (.int (4 : Int32)), (.ref ar)]))
              refine own_st (fun _ k => XS.isub X0.here hx rfl (hb hby d3_28) rfl k) ?_
              show own_Go _ _ _ _ (s₁.setTop (mkF m 29 #[.val (.ref ar), .val (.int ln), .val (.int (4 : Int32))] [(.int (2 : Int32)), (.ref ar)]))
              obtain ⟨cl86, Ar86, -, Sz86, Nn86, Hs86, -⟩ := id V_ar
              have hin86 : ¬ ((2 : Int32) < 0 ∨ cl86.slots.size ≤ ((2 : Int32)).toNatClampNeg) := inb_of Sz86 ⟨(by decide : ¬ ((2 : Int32) < (0 : Int32))), (by decide : (2 : Int32) < (8 : Int32))⟩
              have hat86 : cl86.slots[((2 : Int32)).toNatClampNeg]? = some (.int v2) := Hs86.at hin86 rfl
              refine own_st (X0.baloadBytes hx (j := (2 : Int32)) (v := (.int v2)) (by rw [e0]; exact Ar86.1) (State.isArrayOf_alike hZ.alike Ar86.2.1) Ar86.2.2 hin86 hat86 (g := (mkF m 29 #[.val (.ref ar), .val (.int ln), .val (.int (4 : Int32))] [(.int (2 : Int32)), (.ref ar)])) rfl rfl (hb hby d3_29)) ?_
              show own_Go _ _ _ _ (s₁.setTop (mkF m 30 #[.val (.ref ar), .val (.int ln), .val (.int (4 : Int32))] [(.int v2)]))
              refine own_st (fun _ k => XS.bipush X0.here hx rfl (hb hby d3_30) k) ?_
              show own_Go _ _ _ _ (s₁.setTop (mkF m 32 #[.val (.ref ar), .val (.int ln), .val (.int (4 : Int32))] [(.int (10 : Int32)), (.int v2)]))
              by_cases hc87 : v2 = (10 : Int32)
              · skip
                refine own_st (fun _ k => XS.icmpNo X0.here hx rfl (hb hby d3_32) rfl (teq hc87).2 k) ?_
                show own_Go _ _ _ _ (s₁.setTop (mkF m 35 #[.val (.ref ar), .val (.int ln), .val (.int (4 : Int32))] []))
                refine own_st (fun _ k => XS.aloadN X0.here hx rfl (hb hby d3_35) rfl rfl k) ?_
                show own_Go _ _ _ _ (s₁.setTop (mkF m 36 #[.val (.ref ar), .val (.int ln), .val (.int (4 : Int32))] [(.ref ar)]))
                refine own_st (fun _ k => XS.iloadN X0.here hx rfl (hb hby d3_36) rfl k) ?_
                show own_Go _ _ _ _ (s₁.setTop (mkF m 37 #[.val (.ref ar), .val (.int ln), .val (.int (4 : Int32))] [(.int (4 : Int32)), (.ref ar)]))
                refine own_st (fun _ k => XS.iconst X0.here hx rfl (hb hby d3_37) k) ?_
                show own_Go _ _ _ _ (s₁.setTop (mkF m 38 #[.val (.ref ar), .val (.int ln), .val (.int (4 : Int32))] [(.int (3 : Int32)), (.int (4 : Int32)), (.ref ar)]))
                refine own_st (fun _ k => XS.isub X0.here hx rfl (hb hby d3_38) rfl k) ?_
                show own_Go _ _ _ _ (s₁.setTop (mkF m 39 #[.val (.ref ar), .val (.int ln), .val (.int (4 : Int32))] [(.int (1 : Int32)), (.ref ar)]))
                obtain ⟨cl88, Ar88, -, Sz88, Nn88, Hs88, -⟩ := id V_ar
                have hin88 : ¬ ((1 : Int32) < 0 ∨ cl88.slots.size ≤ ((1 : Int32)).toNatClampNeg) := inb_of Sz88 ⟨(by decide : ¬ ((1 : Int32) < (0 : Int32))), (by decide : (1 : Int32) < (8 : Int32))⟩
                have hat88 : cl88.slots[((1 : Int32)).toNatClampNeg]? = some (.int v1) := Hs88.at hin88 rfl
                refine own_st (X0.baloadBytes hx (j := (1 : Int32)) (v := (.int v1)) (by rw [e0]; exact Ar88.1) (State.isArrayOf_alike hZ.alike Ar88.2.1) Ar88.2.2 hin88 hat88 (g := (mkF m 39 #[.val (.ref ar), .val (.int ln), .val (.int (4 : Int32))] [(.int (1 : Int32)), (.ref ar)])) rfl rfl (hb hby d3_39)) ?_
                show own_Go _ _ _ _ (s₁.setTop (mkF m 40 #[.val (.ref ar), .val (.int ln), .val (.int (4 : Int32))] [(.int v1)]))
                refine own_st (fun _ k => XS.bipush X0.here hx rfl (hb hby d3_40) k) ?_
                show own_Go _ _ _ _ (s₁.setTop (mkF m 42 #[.val (.ref ar), .val (.int ln), .val (.int (4 : Int32))] [(.int (13 : Int32)), (.int v1)]))
                by_cases hc89 : v1 = (13 : Int32)
                · skip
                  refine own_st (fun _ k => XS.icmpNo X0.here hx rfl (hb hby d3_42) rfl (teq hc89).2 k) ?_
                  show own_Go _ _ _ _ (s₁.setTop (mkF m 45 #[.val (.ref ar), .val (.int ln), .val (.int (4 : Int32))] []))
                  refine own_st (fun _ k => XS.iloadN X0.here hx rfl (hb hby d3_45) rfl k) ?_
                  show own_Go _ _ _ _ (s₁.setTop (mkF m 46 #[.val (.ref ar), .val (.int ln), .val (.int (4 : Int32))] [(.int (4 : Int32))]))
                  refine own_st (fun _ k => XS.iconst X0.here hx rfl (hb hby d3_46) k) ?_
                  show own_Go _ _ _ _ (s₁.setTop (mkF m 47 #[.val (.ref ar), .val (.int ln), .val (.int (4 : Int32))] [(.int (1 : Int32)), (.int (4 : Int32))]))
                  refine own_st (fun _ k => XS.iadd X0.here hx rfl (hb hby d3_47) rfl k) ?_
                  show own_Go _ _ _ _ (s₁.setTop (mkF m 48 #[.val (.ref ar), .val (.int ln), .val (.int (4 : Int32))] [(.int (5 : Int32))]))
                  obtain ⟨fs, hr, hrun, hended, hW, hsame⟩ := X0.leave (v := some (.int (5 : Int32))) (fun h => by rw [Bd.returns] at h; cases h)
                  refine own_out (own_retI X0 hx Bd.returns (hb hby d3_48) hr) ⟨hrun, hended, _, _, rfl, ?_, ⟨_, rfl⟩, hW, hsame.mono (by decide) (by decide)⟩
                  show Q3 Z ar kk ln v0 v1 v2 v3 v4 v5 v6 v7 h0 n0 _ s₁.heap _
                  have hv : own_end ln v0 v1 v2 v3 v4 v5 v6 v7 = (5 : Int32) := by
                    unfold own_end
                    rw [if_pos hc48, if_neg hj49, if_pos hc50, if_pos ⟨hc89, hc87, hc85, hc83⟩]
                  exact ⟨by rw [hv], N0, e0⟩
                · skip
                  refine own_st (fun _ k => XS.icmpYes X0.here hx rfl (pc0 := 42) (pc' := 49) rfl (hb hby d3_42) rfl (feq hc89).2 (by decide) (by decide) k) ?_
                  show own_Go _ _ _ _ (s₁.setTop (mkF m 49 #[.val (.ref ar), .val (.int ln), .val (.int (4 : Int32))] []))
                  exact J51 () (fun q => hc89 q.1)
              · skip
                refine own_st (fun _ k => XS.icmpYes X0.here hx rfl (pc0 := 32) (pc' := 49) rfl (hb hby d3_32) rfl (feq hc87).2 (by decide) (by decide) k) ?_
                show own_Go _ _ _ _ (s₁.setTop (mkF m 49 #[.val (.ref ar), .val (.int ln), .val (.int (4 : Int32))] []))
                exact J51 () (fun q => hc87 q.2.1)
            · skip
              refine own_st (fun _ k => XS.icmpYes X0.here hx rfl (pc0 := 22) (pc' := 49) rfl (hb hby d3_22) rfl (feq hc85).2 (by decide) (by decide) k) ?_
              show own_Go _ _ _ _ (s₁.setTop (mkF m 49 #[.val (.ref ar), .val (.int ln), .val (.int (4 : Int32))] []))
              exact J51 () (fun q => hc85 q.2.2.1)
          · skip
            refine own_st (fun _ k => XS.icmpYes X0.here hx rfl (pc0 := 12) (pc' := 49) rfl (hb hby d3_12) rfl (feq hc83).2 (by decide) (by decide) k) ?_
            show own_Go _ _ _ _ (s₁.setTop (mkF m 49 #[.val (.ref ar), .val (.int ln), .val (.int (4 : Int32))] []))
            exact J51 () (fun q => hc83 q.2.2.2)
      · skip
        refine own_st (fun _ k => XS.icmpYes X0.here hx rfl (pc0 := 4) (pc' := 55) rfl (hb hby d3_4) rfl (flt hc50).2.1 (by decide) (by decide) k) ?_
        show own_Go _ _ _ _ (s₁.setTop (mkF m 55 #[.val (.ref ar), .val (.int ln), .val (.int (4 : Int32))] []))
        refine own_st (fun _ k => XS.iconst X0.here hx rfl (hb hby d3_55) k) ?_
        show own_Go _ _ _ _ (s₁.setTop (mkF m 56 #[.val (.ref ar), .val (.int ln), .val (.int (4 : Int32))] [(.int (0 : Int32))]))
        obtain ⟨fs, hr, hrun, hended, hW, hsame⟩ := X0.leave (v := some (.int (0 : Int32))) (fun h => by rw [Bd.returns] at h; cases h)
        refine own_out (own_retI X0 hx Bd.returns (hb hby d3_56) hr) ⟨hrun, hended, _, _, rfl, ?_, ⟨_, rfl⟩, hW, hsame.mono (by decide) (by decide)⟩
        show Q3 Z ar kk ln v0 v1 v2 v3 v4 v5 v6 v7 h0 n0 _ s₁.heap _
        have hv : own_end ln v0 v1 v2 v3 v4 v5 v6 v7 = (0 : Int32) := by
          unfold own_end
          rw [if_pos hc48, if_neg hj49, if_neg hc50]
        exact ⟨by rw [hv], N0, e0⟩
    · intro J49
      show own_Go _ _ _ _ (s₁.setTop (mkF m 7 #[.val (.ref ar), .val (.int ln), .val (.int (3 : Int32))] []))
      refine own_st (fun _ k => XS.aloadN X0.here hx rfl (hb hby d3_7) rfl rfl k) ?_
      show own_Go _ _ _ _ (s₁.setTop (mkF m 8 #[.val (.ref ar), .val (.int ln), .val (.int (3 : Int32))] [(.ref ar)]))
      refine own_st (fun _ k => XS.iloadN X0.here hx rfl (hb hby d3_8) rfl k) ?_
      show own_Go _ _ _ _ (s₁.setTop (mkF m 9 #[.val (.ref ar), .val (.int ln), .val (.int (3 : Int32))] [(.int (3 : Int32)), (.ref ar)]))
      obtain ⟨cl90, Ar90, -, Sz90, Nn90, Hs90, -⟩ := id V_ar
      have hin90 : ¬ ((3 : Int32) < 0 ∨ cl90.slots.size ≤ ((3 : Int32)).toNatClampNeg) := inb_of Sz90 ⟨(by decide : ¬ ((3 : Int32) < (0 : Int32))), (by decide : (3 : Int32) < (8 : Int32))⟩
      have hat90 : cl90.slots[((3 : Int32)).toNatClampNeg]? = some (.int v3) := Hs90.at hin90 rfl
      refine own_st (X0.baloadBytes hx (j := (3 : Int32)) (v := (.int v3)) (by rw [e0]; exact Ar90.1) (State.isArrayOf_alike hZ.alike Ar90.2.1) Ar90.2.2 hin90 hat90 (g := (mkF m 9 #[.val (.ref ar), .val (.int ln), .val (.int (3 : Int32))] [(.int (3 : Int32)), (.ref ar)])) rfl rfl (hb hby d3_9)) ?_
      show own_Go _ _ _ _ (s₁.setTop (mkF m 10 #[.val (.ref ar), .val (.int ln), .val (.int (3 : Int32))] [(.int v3)]))
      refine own_st (fun _ k => XS.bipush X0.here hx rfl (hb hby d3_10) k) ?_
      show own_Go _ _ _ _ (s₁.setTop (mkF m 12 #[.val (.ref ar), .val (.int ln), .val (.int (3 : Int32))] [(.int (10 : Int32)), (.int v3)]))
      by_cases hc91 : v3 = (10 : Int32)
      · skip
        refine own_st (fun _ k => XS.icmpNo X0.here hx rfl (hb hby d3_12) rfl (teq hc91).2 k) ?_
        show own_Go _ _ _ _ (s₁.setTop (mkF m 15 #[.val (.ref ar), .val (.int ln), .val (.int (3 : Int32))] []))
        refine own_st (fun _ k => XS.aloadN X0.here hx rfl (hb hby d3_15) rfl rfl k) ?_
        show own_Go _ _ _ _ (s₁.setTop (mkF m 16 #[.val (.ref ar), .val (.int ln), .val (.int (3 : Int32))] [(.ref ar)]))
        refine own_st (fun _ k => XS.iloadN X0.here hx rfl (hb hby d3_16) rfl k) ?_
        show own_Go _ _ _ _ (s₁.setTop (mkF m 17 #[.val (.ref ar), .val (.int ln), .val (.int (3 : Int32))] [(.int (3 : Int32)), (.ref ar)]))
        refine own_st (fun _ k => XS.iconst X0.here hx rfl (hb hby d3_17) k) ?_
        show own_Go _ _ _ _ (s₁.setTop (mkF m 18 #[.val (.ref ar), .val (.int ln), .val (.int (3 : Int32))] [(.int (1 : Int32)), (.int (3 : Int32)), (.ref ar)]))
        refine own_st (fun _ k => XS.isub X0.here hx rfl (hb hby d3_18) rfl k) ?_
        show own_Go _ _ _ _ (s₁.setTop (mkF m 19 #[.val (.ref ar), .val (.int ln), .val (.int (3 : Int32))] [(.int (2 : Int32)), (.ref ar)]))
        obtain ⟨cl92, Ar92, -, Sz92, Nn92, Hs92, -⟩ := id V_ar
        have hin92 : ¬ ((2 : Int32) < 0 ∨ cl92.slots.size ≤ ((2 : Int32)).toNatClampNeg) := inb_of Sz92 ⟨(by decide : ¬ ((2 : Int32) < (0 : Int32))), (by decide : (2 : Int32) < (8 : Int32))⟩
        have hat92 : cl92.slots[((2 : Int32)).toNatClampNeg]? = some (.int v2) := Hs92.at hin92 rfl
        refine own_st (X0.baloadBytes hx (j := (2 : Int32)) (v := (.int v2)) (by rw [e0]; exact Ar92.1) (State.isArrayOf_alike hZ.alike Ar92.2.1) Ar92.2.2 hin92 hat92 (g := (mkF m 19 #[.val (.ref ar), .val (.int ln), .val (.int (3 : Int32))] [(.int (2 : Int32)), (.ref ar)])) rfl rfl (hb hby d3_19)) ?_
        show own_Go _ _ _ _ (s₁.setTop (mkF m 20 #[.val (.ref ar), .val (.int ln), .val (.int (3 : Int32))] [(.int v2)]))
        refine own_st (fun _ k => XS.bipush X0.here hx rfl (hb hby d3_20) k) ?_
        show own_Go _ _ _ _ (s₁.setTop (mkF m 22 #[.val (.ref ar), .val (.int ln), .val (.int (3 : Int32))] [(.int (13 : Int32)), (.int v2)]))
        by_cases hc93 : v2 = (13 : Int32)
        · skip
          refine own_st (fun _ k => XS.icmpNo X0.here hx rfl (hb hby d3_22) rfl (teq hc93).2 k) ?_
          show own_Go _ _ _ _ (s₁.setTop (mkF m 25 #[.val (.ref ar), .val (.int ln), .val (.int (3 : Int32))] []))
          refine own_st (fun _ k => XS.aloadN X0.here hx rfl (hb hby d3_25) rfl rfl k) ?_
          show own_Go _ _ _ _ (s₁.setTop (mkF m 26 #[.val (.ref ar), .val (.int ln), .val (.int (3 : Int32))] [(.ref ar)]))
          refine own_st (fun _ k => XS.iloadN X0.here hx rfl (hb hby d3_26) rfl k) ?_
          show own_Go _ _ _ _ (s₁.setTop (mkF m 27 #[.val (.ref ar), .val (.int ln), .val (.int (3 : Int32))] [(.int (3 : Int32)), (.ref ar)]))
          refine own_st (fun _ k => XS.iconst X0.here hx rfl (hb hby d3_27) k) ?_
          show own_Go _ _ _ _ (s₁.setTop (mkF m 28 #[.val (.ref ar), .val (.int ln), .val (.int (3 : Int32))] [(.int (2 : Int32)), (.int (3 : Int32)), (.ref ar)]))
          refine own_st (fun _ k => XS.isub X0.here hx rfl (hb hby d3_28) rfl k) ?_
          show own_Go _ _ _ _ (s₁.setTop (mkF m 29 #[.val (.ref ar), .val (.int ln), .val (.int (3 : Int32))] [(.int (1 : Int32)), (.ref ar)]))
          obtain ⟨cl94, Ar94, -, Sz94, Nn94, Hs94, -⟩ := id V_ar
          have hin94 : ¬ ((1 : Int32) < 0 ∨ cl94.slots.size ≤ ((1 : Int32)).toNatClampNeg) := inb_of Sz94 ⟨(by decide : ¬ ((1 : Int32) < (0 : Int32))), (by decide : (1 : Int32) < (8 : Int32))⟩
          have hat94 : cl94.slots[((1 : Int32)).toNatClampNeg]? = some (.int v1) := Hs94.at hin94 rfl
          refine own_st (X0.baloadBytes hx (j := (1 : Int32)) (v := (.int v1)) (by rw [e0]; exact Ar94.1) (State.isArrayOf_alike hZ.alike Ar94.2.1) Ar94.2.2 hin94 hat94 (g := (mkF m 29 #[.val (.ref ar), .val (.int ln), .val (.int (3 : Int32))] [(.int (1 : Int32)), (.ref ar)])) rfl rfl (hb hby d3_29)) ?_
          show own_Go _ _ _ _ (s₁.setTop (mkF m 30 #[.val (.ref ar), .val (.int ln), .val (.int (3 : Int32))] [(.int v1)]))
          refine own_st (fun _ k => XS.bipush X0.here hx rfl (hb hby d3_30) k) ?_
          show own_Go _ _ _ _ (s₁.setTop (mkF m 32 #[.val (.ref ar), .val (.int ln), .val (.int (3 : Int32))] [(.int (10 : Int32)), (.int v1)]))
          by_cases hc95 : v1 = (10 : Int32)
          · skip
            refine own_st (fun _ k => XS.icmpNo X0.here hx rfl (hb hby d3_32) rfl (teq hc95).2 k) ?_
            show own_Go _ _ _ _ (s₁.setTop (mkF m 35 #[.val (.ref ar), .val (.int ln), .val (.int (3 : Int32))] []))
            refine own_st (fun _ k => XS.aloadN X0.here hx rfl (hb hby d3_35) rfl rfl k) ?_
            show own_Go _ _ _ _ (s₁.setTop (mkF m 36 #[.val (.ref ar), .val (.int ln), .val (.int (3 : Int32))] [(.ref ar)]))
            refine own_st (fun _ k => XS.iloadN X0.here hx rfl (hb hby d3_36) rfl k) ?_
            show own_Go _ _ _ _ (s₁.setTop (mkF m 37 #[.val (.ref ar), .val (.int ln), .val (.int (3 : Int32))] [(.int (3 : Int32)), (.ref ar)]))
            refine own_st (fun _ k => XS.iconst X0.here hx rfl (hb hby d3_37) k) ?_
            show own_Go _ _ _ _ (s₁.setTop (mkF m 38 #[.val (.ref ar), .val (.int ln), .val (.int (3 : Int32))] [(.int (3 : Int32)), (.int (3 : Int32)), (.ref ar)]))
            refine own_st (fun _ k => XS.isub X0.here hx rfl (hb hby d3_38) rfl k) ?_
            show own_Go _ _ _ _ (s₁.setTop (mkF m 39 #[.val (.ref ar), .val (.int ln), .val (.int (3 : Int32))] [(.int (0 : Int32)), (.ref ar)]))
            obtain ⟨cl96, Ar96, -, Sz96, Nn96, Hs96, -⟩ := id V_ar
            have hin96 : ¬ ((0 : Int32) < 0 ∨ cl96.slots.size ≤ ((0 : Int32)).toNatClampNeg) := inb_of Sz96 ⟨(by decide : ¬ ((0 : Int32) < (0 : Int32))), (by decide : (0 : Int32) < (8 : Int32))⟩
            have hat96 : cl96.slots[((0 : Int32)).toNatClampNeg]? = some (.int v0) := Hs96.at hin96 rfl
            refine own_st (X0.baloadBytes hx (j := (0 : Int32)) (v := (.int v0)) (by rw [e0]; exact Ar96.1) (State.isArrayOf_alike hZ.alike Ar96.2.1) Ar96.2.2 hin96 hat96 (g := (mkF m 39 #[.val (.ref ar), .val (.int ln), .val (.int (3 : Int32))] [(.int (0 : Int32)), (.ref ar)])) rfl rfl (hb hby d3_39)) ?_
            show own_Go _ _ _ _ (s₁.setTop (mkF m 40 #[.val (.ref ar), .val (.int ln), .val (.int (3 : Int32))] [(.int v0)]))
            refine own_st (fun _ k => XS.bipush X0.here hx rfl (hb hby d3_40) k) ?_
            show own_Go _ _ _ _ (s₁.setTop (mkF m 42 #[.val (.ref ar), .val (.int ln), .val (.int (3 : Int32))] [(.int (13 : Int32)), (.int v0)]))
            by_cases hc97 : v0 = (13 : Int32)
            · skip
              refine own_st (fun _ k => XS.icmpNo X0.here hx rfl (hb hby d3_42) rfl (teq hc97).2 k) ?_
              show own_Go _ _ _ _ (s₁.setTop (mkF m 45 #[.val (.ref ar), .val (.int ln), .val (.int (3 : Int32))] []))
              refine own_st (fun _ k => XS.iloadN X0.here hx rfl (hb hby d3_45) rfl k) ?_
              show own_Go _ _ _ _ (s₁.setTop (mkF m 46 #[.val (.ref ar), .val (.int ln), .val (.int (3 : Int32))] [(.int (3 : Int32))]))
              refine own_st (fun _ k => XS.iconst X0.here hx rfl (hb hby d3_46) k) ?_
              show own_Go _ _ _ _ (s₁.setTop (mkF m 47 #[.val (.ref ar), .val (.int ln), .val (.int (3 : Int32))] [(.int (1 : Int32)), (.int (3 : Int32))]))
              refine own_st (fun _ k => XS.iadd X0.here hx rfl (hb hby d3_47) rfl k) ?_
              show own_Go _ _ _ _ (s₁.setTop (mkF m 48 #[.val (.ref ar), .val (.int ln), .val (.int (3 : Int32))] [(.int (4 : Int32))]))
              obtain ⟨fs, hr, hrun, hended, hW, hsame⟩ := X0.leave (v := some (.int (4 : Int32))) (fun h => by rw [Bd.returns] at h; cases h)
              refine own_out (own_retI X0 hx Bd.returns (hb hby d3_48) hr) ⟨hrun, hended, _, _, rfl, ?_, ⟨_, rfl⟩, hW, hsame.mono (by decide) (by decide)⟩
              show Q3 Z ar kk ln v0 v1 v2 v3 v4 v5 v6 v7 h0 n0 _ s₁.heap _
              have hv : own_end ln v0 v1 v2 v3 v4 v5 v6 v7 = (4 : Int32) := by
                unfold own_end
                rw [if_pos hc48, if_pos ⟨hc97, hc95, hc93, hc91⟩]
              exact ⟨by rw [hv], N0, e0⟩
            · skip
              refine own_st (fun _ k => XS.icmpYes X0.here hx rfl (pc0 := 42) (pc' := 49) rfl (hb hby d3_42) rfl (feq hc97).2 (by decide) (by decide) k) ?_
              show own_Go _ _ _ _ (s₁.setTop (mkF m 49 #[.val (.ref ar), .val (.int ln), .val (.int (3 : Int32))] []))
              exact J49 () (fun q => hc97 q.1)
          · skip
            refine own_st (fun _ k => XS.icmpYes X0.here hx rfl (pc0 := 32) (pc' := 49) rfl (hb hby d3_32) rfl (feq hc95).2 (by decide) (by decide) k) ?_
            show own_Go _ _ _ _ (s₁.setTop (mkF m 49 #[.val (.ref ar), .val (.int ln), .val (.int (3 : Int32))] []))
            exact J49 () (fun q => hc95 q.2.1)
        · skip
          refine own_st (fun _ k => XS.icmpYes X0.here hx rfl (pc0 := 22) (pc' := 49) rfl (hb hby d3_22) rfl (feq hc93).2 (by decide) (by decide) k) ?_
          show own_Go _ _ _ _ (s₁.setTop (mkF m 49 #[.val (.ref ar), .val (.int ln), .val (.int (3 : Int32))] []))
          exact J49 () (fun q => hc93 q.2.2.1)
      · skip
        refine own_st (fun _ k => XS.icmpYes X0.here hx rfl (pc0 := 12) (pc' := 49) rfl (hb hby d3_12) rfl (feq hc91).2 (by decide) (by decide) k) ?_
        show own_Go _ _ _ _ (s₁.setTop (mkF m 49 #[.val (.ref ar), .val (.int ln), .val (.int (3 : Int32))] []))
        exact J49 () (fun q => hc91 q.2.2.2)
  · skip
    refine own_st (fun _ k => XS.icmpYes X0.here hx rfl (pc0 := 4) (pc' := 55) rfl (hb hby d3_4) rfl (flt hc48).2.1 (by decide) (by decide) k) ?_
    show own_Go _ _ _ _ (s₁.setTop (mkF m 55 #[.val (.ref ar), .val (.int ln), .val (.int (3 : Int32))] []))
    refine own_st (fun _ k => XS.iconst X0.here hx rfl (hb hby d3_55) k) ?_
    show own_Go _ _ _ _ (s₁.setTop (mkF m 56 #[.val (.ref ar), .val (.int ln), .val (.int (3 : Int32))] [(.int (0 : Int32))]))
    obtain ⟨fs, hr, hrun, hended, hW, hsame⟩ := X0.leave (v := some (.int (0 : Int32))) (fun h => by rw [Bd.returns] at h; cases h)
    refine own_out (own_retI X0 hx Bd.returns (hb hby d3_56) hr) ⟨hrun, hended, _, _, rfl, ?_, ⟨_, rfl⟩, hW, hsame.mono (by decide) (by decide)⟩
    show Q3 Z ar kk ln v0 v1 v2 v3 v4 v5 v6 v7 h0 n0 _ s₁.heap _
    have hv : own_end ln v0 v1 v2 v3 v4 v5 v6 v7 = (0 : Int32) := by
      unfold own_end
      rw [if_neg hc48]
    exact ⟨by rw [hv], N0, e0⟩
theorem own_le8 (u : Int32) : ¬ (8 : Int32) < ((u &&& (15 : Int32)) - ((u &&& (15 : Int32)) / (9 : Int32)) * (9 : Int32)) := by
  have m := c_mask u 15 4 (by decide) (by decide)
  generalize (u &&& (15 : Int32)) = v at *
  have r := rng32 v
  have d := (c_idiv v 9 9 rfl (by decide)).1 (by omega)
  have h2 := c_imul (v / 9) 9
  have r2 := rng32 ((v / 9) * 9)
  have h3 := c_isub v ((v / 9) * 9)
  have r3 := rng32 (v - (v / 9) * 9)
  simp only [Int32.lt_iff_toInt_lt, Int32.reduceToInt] at *
  omega
theorem own_mono (n : Int32) {i j : Int32} (h : ¬ i < n) (q : i < j) : ¬ j < n := fun z => h (by simp only [Int32.lt_iff_toInt_lt] at *; omega)
theorem own_fin0 (ln v0 v1 v2 v3 v4 v5 v6 v7 : Int32) (h3 : own_bl ln (3 : Int32) v0 v1 v2 v3 = (0 : Int32)) (h4 : own_bl ln (4 : Int32) v1 v2 v3 v4 = (0 : Int32)) (h5 : own_bl ln (5 : Int32) v2 v3 v4 v5 = (0 : Int32)) (h6 : own_bl ln (6 : Int32) v3 v4 v5 v6 = (0 : Int32)) (h7 : own_bl ln (7 : Int32) v4 v5 v6 v7 = (0 : Int32)) : own_end ln v0 v1 v2 v3 v4 v5 v6 v7 = (0 : Int32) := by
  unfold own_end
  have k3 := (own_blz _ _ _ _ _ _).mp h3
  by_cases p3 : (3 : Int32) < ln
  case neg => rw [if_neg p3]
  rw [if_pos p3, if_neg (fun q => k3 ⟨p3, q⟩)]
  have k4 := (own_blz _ _ _ _ _ _).mp h4
  by_cases p4 : (4 : Int32) < ln
  case neg => rw [if_neg p4]
  rw [if_pos p4, if_neg (fun q => k4 ⟨p4, q⟩)]
  have k5 := (own_blz _ _ _ _ _ _).mp h5
  by_cases p5 : (5 : Int32) < ln
  case neg => rw [if_neg p5]
  rw [if_pos p5, if_neg (fun q => k5 ⟨p5, q⟩)]
  have k6 := (own_blz _ _ _ _ _ _).mp h6
  by_cases p6 : (6 : Int32) < ln
  case neg => rw [if_neg p6]
  rw [if_pos p6, if_neg (fun q => k6 ⟨p6, q⟩)]
  have k7 := (own_blz _ _ _ _ _ _).mp h7
  by_cases p7 : (7 : Int32) < ln
  case neg => rw [if_neg p7]
  rw [if_pos p7, if_neg (fun q => k7 ⟨p7, q⟩)]
theorem own_fin4 (ln v0 v1 v2 v3 v4 v5 v6 v7 : Int32) (g : ¬ own_bl ln (3 : Int32) v0 v1 v2 v3 = (0 : Int32)) : own_end ln v0 v1 v2 v3 v4 v5 v6 v7 = (4 : Int32) := by
  unfold own_end
  have k := Decidable.not_not.mp (fun q => g ((own_blz _ _ _ _ _ _).mpr q))
  rw [if_pos k.1, if_pos k.2]
theorem own_fin5 (ln v0 v1 v2 v3 v4 v5 v6 v7 : Int32) (h3 : own_bl ln (3 : Int32) v0 v1 v2 v3 = (0 : Int32)) (g : ¬ own_bl ln (4 : Int32) v1 v2 v3 v4 = (0 : Int32)) : own_end ln v0 v1 v2 v3 v4 v5 v6 v7 = (5 : Int32) := by
  unfold own_end
  have k := Decidable.not_not.mp (fun q => g ((own_blz _ _ _ _ _ _).mpr q))
  have k3 := (own_blz _ _ _ _ _ _).mp h3
  have p3 : (3 : Int32) < ln := Decidable.not_not.mp fun q => own_mono ln q (by decide : (3 : Int32) < (4 : Int32)) k.1
  rw [if_pos p3, if_neg (fun q => k3 ⟨p3, q⟩)]
  rw [if_pos k.1, if_pos k.2]
theorem own_fin6 (ln v0 v1 v2 v3 v4 v5 v6 v7 : Int32) (h3 : own_bl ln (3 : Int32) v0 v1 v2 v3 = (0 : Int32)) (h4 : own_bl ln (4 : Int32) v1 v2 v3 v4 = (0 : Int32)) (g : ¬ own_bl ln (5 : Int32) v2 v3 v4 v5 = (0 : Int32)) : own_end ln v0 v1 v2 v3 v4 v5 v6 v7 = (6 : Int32) := by
  unfold own_end
  have k := Decidable.not_not.mp (fun q => g ((own_blz _ _ _ _ _ _).mpr q))
  have k3 := (own_blz _ _ _ _ _ _).mp h3
  have p3 : (3 : Int32) < ln := Decidable.not_not.mp fun q => own_mono ln q (by decide : (3 : Int32) < (5 : Int32)) k.1
  rw [if_pos p3, if_neg (fun q => k3 ⟨p3, q⟩)]
  have k4 := (own_blz _ _ _ _ _ _).mp h4
  have p4 : (4 : Int32) < ln := Decidable.not_not.mp fun q => own_mono ln q (by decide : (4 : Int32) < (5 : Int32)) k.1
  rw [if_pos p4, if_neg (fun q => k4 ⟨p4, q⟩)]
  rw [if_pos k.1, if_pos k.2]
theorem own_fin7 (ln v0 v1 v2 v3 v4 v5 v6 v7 : Int32) (h3 : own_bl ln (3 : Int32) v0 v1 v2 v3 = (0 : Int32)) (h4 : own_bl ln (4 : Int32) v1 v2 v3 v4 = (0 : Int32)) (h5 : own_bl ln (5 : Int32) v2 v3 v4 v5 = (0 : Int32)) (g : ¬ own_bl ln (6 : Int32) v3 v4 v5 v6 = (0 : Int32)) : own_end ln v0 v1 v2 v3 v4 v5 v6 v7 = (7 : Int32) := by
  unfold own_end
  have k := Decidable.not_not.mp (fun q => g ((own_blz _ _ _ _ _ _).mpr q))
  have k3 := (own_blz _ _ _ _ _ _).mp h3
  have p3 : (3 : Int32) < ln := Decidable.not_not.mp fun q => own_mono ln q (by decide : (3 : Int32) < (6 : Int32)) k.1
  rw [if_pos p3, if_neg (fun q => k3 ⟨p3, q⟩)]
  have k4 := (own_blz _ _ _ _ _ _).mp h4
  have p4 : (4 : Int32) < ln := Decidable.not_not.mp fun q => own_mono ln q (by decide : (4 : Int32) < (6 : Int32)) k.1
  rw [if_pos p4, if_neg (fun q => k4 ⟨p4, q⟩)]
  have k5 := (own_blz _ _ _ _ _ _).mp h5
  have p5 : (5 : Int32) < ln := Decidable.not_not.mp fun q => own_mono ln q (by decide : (5 : Int32) < (6 : Int32)) k.1
  rw [if_pos p5, if_neg (fun q => k5 ⟨p5, q⟩)]
  rw [if_pos k.1, if_pos k.2]
theorem own_fin8 (ln v0 v1 v2 v3 v4 v5 v6 v7 : Int32) (h3 : own_bl ln (3 : Int32) v0 v1 v2 v3 = (0 : Int32)) (h4 : own_bl ln (4 : Int32) v1 v2 v3 v4 = (0 : Int32)) (h5 : own_bl ln (5 : Int32) v2 v3 v4 v5 = (0 : Int32)) (h6 : own_bl ln (6 : Int32) v3 v4 v5 v6 = (0 : Int32)) (g : ¬ own_bl ln (7 : Int32) v4 v5 v6 v7 = (0 : Int32)) : own_end ln v0 v1 v2 v3 v4 v5 v6 v7 = (8 : Int32) := by
  unfold own_end
  have k := Decidable.not_not.mp (fun q => g ((own_blz _ _ _ _ _ _).mpr q))
  have k3 := (own_blz _ _ _ _ _ _).mp h3
  have p3 : (3 : Int32) < ln := Decidable.not_not.mp fun q => own_mono ln q (by decide : (3 : Int32) < (7 : Int32)) k.1
  rw [if_pos p3, if_neg (fun q => k3 ⟨p3, q⟩)]
  have k4 := (own_blz _ _ _ _ _ _).mp h4
  have p4 : (4 : Int32) < ln := Decidable.not_not.mp fun q => own_mono ln q (by decide : (4 : Int32) < (7 : Int32)) k.1
  rw [if_pos p4, if_neg (fun q => k4 ⟨p4, q⟩)]
  have k5 := (own_blz _ _ _ _ _ _).mp h5
  have p5 : (5 : Int32) < ln := Decidable.not_not.mp fun q => own_mono ln q (by decide : (5 : Int32) < (7 : Int32)) k.1
  rw [if_pos p5, if_neg (fun q => k5 ⟨p5, q⟩)]
  have k6 := (own_blz _ _ _ _ _ _).mp h6
  have p6 : (6 : Int32) < ln := Decidable.not_not.mp fun q => own_mono ln q (by decide : (6 : Int32) < (7 : Int32)) k.1
  rw [if_pos p6, if_neg (fun q => k6 ⟨p6, q⟩)]
  rw [if_pos k.1, if_pos k.2]
theorem own_pd3 : parseMethodDescriptor "(IJI)Z" = some ⟨[.int, .long, .int], some .boolean⟩ := by decide +kernel
def Q0 (Z : State) (u0 : Int32) (u1 : Int64) (u2 : Int32) (h0 : Heap) (n0 : Nat) (v : Option Value) (h : Heap) (L : List Loc) : Prop := v = some (.int 1) ∧ Fr n0 L
theorem ef_0 (m : MethodId) (x0 : Int32) (x1 : Int64) (x2 : Int32) : entryFrame m #[(.int x0), (.long x1), (.int x2)] maxLocals = mkF m 0 #[.val (.int x0), .val (.long x1), .second, .val (.int x2), .unset, .unset, .unset] [] := by first | (simp [entryFrame, mkF, argsToLocals, Value.category, maxLocals]; done) | rfl
set_option maxRecDepth 65536 in
set_option maxHeartbeats 40000000 in
theorem rm0 (l : Launch) (Z : State) (a0 : Array Value) (hw : ∀ d ∈ tables_1, d.before a0 Z = true) (ws : List Jvm.Cond) (u0 : Int32) (u1 : Int64) (u2 : Int32) (h0 : Heap) (n0 : Nat) (Z0 : n0 ≤ h0.size)  :
    MetFree l x (head1 (Jvm.Cond.code x code maxLocals ret :: ws) room_1) (fun a U => a = #[(.int u0), (.long u1), (.int u2)] ∧ Z.Warmed39 U.vm ∧ U.heap = h0) (fun _ _ _ _ _ => True) (fun _ U o U' => ∃ v L, o = .returned v ∧ Q0 Z u0 u1 u2 h0 n0 v U'.heap L ∧ FrameEnd U o U' L 16 128) := by
  refine MetFree.of_bodySF (plainFor_of_name own_pn0) hisR ?_
  intro p e s m args below meth c s₁ Bd hml0 hP hK
  obtain ⟨rfl, hZ, hh⟩ := hP
  have hx := Bd.exec
  have hby := Bd.bytes
  have hml : c.maxLocals = 7 := hml0
  have hown : s.vm.findClass "HttpHeadEndPinLaw" = some m.cls := findClass_of_methodNamed Bd.named
  have hnm := (name_of_methodNamed Bd.named Bd.method).1
  have X0 : Stand p l e room_1 s m #[(.int u0), (.long u1), (.int u2)] below meth c s₁ [] 0 0 := Stand.of_body Bd
  have e0 : s₁.heap = h0 := by rw [← hh, Bd.state]; rfl
  have N0 := Fr.nil n0
  refine own_in ?_
  refine own_st (fun _ k => castTop (ef_0 m u0 u1 u2) k) ?_
  have K0 : Keep h0 h0 [] := Keep.refl h0 []
  show own_Go _ _ _ _ (s₁.setTop (mkF m 0 #[.val (.int u0), .val (.long u1), .second, .val (.int u2), .unset, .unset, .unset] []))
  refine own_st (fun _ k => XS.bipush X0.here hx rfl (hb hby at_0) k) ?_
  show own_Go _ _ _ _ (s₁.setTop (mkF m 2 #[.val (.int u0), .val (.long u1), .second, .val (.int u2), .unset, .unset, .unset] [(.int (8 : Int32))]))
  obtain ⟨T98, h98, k98, X98, e98, E98, A98, st98⟩ := newP X0 hx hZ (hw _ (List.mem_of_getElem? (i := 0) rfl)) e0 (g := (mkF m 2 #[.val (.int u0), .val (.long u1), .second, .val (.int u2), .unset, .unset, .unset] [(.int (8 : Int32))])) rfl (hb hby at_2) rfl (by decide : ¬ ((8 : Int32) < (0 : Int32))) (cap := 8) (by decide : ((8 : Int32)).toNatClampNeg ≤ 8) (by decide) (by decide) (by decide)
  obtain ⟨b98, g98⟩ : ∃ z, z = h0.size := ⟨_, rfl⟩
  rw [← g98] at A98 st98
  refine own_st st98 ?_
  have Z98 : n0 ≤ h98.size := Nat.le_trans Z0 E98.1
  have gnb98 : n0 ≤ b98 := Nat.le_trans Z0 (Nat.le_of_eq g98.symm)
  have gkb98 : h0.size ≤ b98 := Nat.le_trans K0.1 (Nat.le_of_eq g98.symm)
  have K98 : Keep h0 h98 [] := K0.ext E98
  have V98 : Arv Z h98 b98 k98 .byte (8 : Int32) [(.int (0 : Int32)), (.int (0 : Int32)), (.int (0 : Int32)), (.int (0 : Int32)), (.int (0 : Int32)), (.int (0 : Int32)), (.int (0 : Int32)), (.int (0 : Int32))] (.int (0 : Int32)) := (Arv.new A98 (by decide : ¬ ((8 : Int32) < (0 : Int32)))).pad (pad_rep [] (.int (0 : Int32)) 8)
  show own_Go _ _ _ _ (T98.setTop (mkF m 4 #[.val (.int u0), .val (.long u1), .second, .val (.int u2), .unset, .unset, .unset] [(.ref b98)]))
  refine own_st (fun _ k => XS.astore X98.here hx rfl (hb hby at_4) rfl rfl (l' := #[.val (.int u0), .val (.long u1), .second, .val (.int u2), .val (.ref b98), .unset, .unset]) rfl k) ?_
  show own_Go _ _ _ _ (T98.setTop (mkF m 6 #[.val (.int u0), .val (.long u1), .second, .val (.int u2), .val (.ref b98), .unset, .unset] []))
  refine own_st (fun _ k => XS.aload X98.here hx rfl (hb hby at_6) rfl rfl k) ?_
  show own_Go _ _ _ _ (T98.setTop (mkF m 8 #[.val (.int u0), .val (.long u1), .second, .val (.int u2), .val (.ref b98), .unset, .unset] [(.ref b98)]))
  refine own_st (fun _ k => XS.iconst X98.here hx rfl (hb hby at_8) k) ?_
  show own_Go _ _ _ _ (T98.setTop (mkF m 9 #[.val (.int u0), .val (.long u1), .second, .val (.int u2), .val (.ref b98), .unset, .unset] [(.int (0 : Int32)), (.ref b98)]))
  refine own_st (fun _ k => XS.iloadN X98.here hx rfl (hb hby at_9) rfl k) ?_
  show own_Go _ _ _ _ (T98.setTop (mkF m 10 #[.val (.int u0), .val (.long u1), .second, .val (.int u2), .val (.ref b98), .unset, .unset] [(.int u0), (.int (0 : Int32)), (.ref b98)]))
  refine own_st (fun _ k => XS.lloadN X98.here hx rfl (hb hby at_10) rfl k) ?_
  show own_Go _ _ _ _ (T98.setTop (mkF m 11 #[.val (.int u0), .val (.long u1), .second, .val (.int u2), .val (.ref b98), .unset, .unset] [(.long u1), (.int u0), (.int (0 : Int32)), (.ref b98)]))
  refine own_st (fun _ k => XS.iconst X98.here hx rfl (hb hby at_11) k) ?_
  show own_Go _ _ _ _ (T98.setTop (mkF m 12 #[.val (.int u0), .val (.long u1), .second, .val (.int u2), .val (.ref b98), .unset, .unset] [(.int (0 : Int32)), (.long u1), (.int u0), (.int (0 : Int32)), (.ref b98)]))
  obtain ⟨_, _, ⟨T99, L99, k99, n99⟩, -, X99, ⟨Lc99, hQ99, l99, y99, z99⟩, st99⟩ := Jvm.LawKit.callS X98 hx (y := (⟨"HttpHeadEndPinLaw", "pick", "(IJI)B"⟩ : MethodName)) hown (mvT hZ (hw _ (List.mem_of_getElem? (i := 1) rfl))) (mvT hZ (hw _ (List.mem_of_getElem? (i := 2) rfl))) (mvT hZ (hw _ (List.mem_of_getElem? (i := 3) rfl))) (mvT hZ (hw _ (List.mem_of_getElem? (i := 4) rfl))) (by decide) (backOf (W := 2) (rm1 l Z a0 hw [] u0 u1 (0 : Int32) h98 n0 Z98) hZ (hw _ (List.mem_of_getElem? (i := 4) rfl)) (hw _ (List.mem_of_getElem? (i := 3) rfl)) (by decide) (by decide)) (g := (mkF m 12 #[.val (.int u0), .val (.long u1), .second, .val (.int u2), .val (.ref b98), .unset, .unset] [(.int (0 : Int32)), (.long u1), (.int u0), (.int (0 : Int32)), (.ref b98)])) rfl (by rw [hml]; rfl) (argsL := [(.int u0), (.long u1), (.int (0 : Int32))]) (rest := [(.int (0 : Int32)), (.ref b98)]) (lenOf own_pd0 rfl) rfl (by show 2 * 0 + _ ≤ _; exact Nat.le_of_eq rfl) (hb hby at_12) (fun _ _ => ⟨rfl, e98, (by decide : 1 + 0 ≤ _), (by decide : 8 + 0 ≤ _)⟩)
  dsimp only [Pt.U, Pt.locs, Pt.cells, Pt.slots] at X99 l99 y99 z99 st99 hQ99
  rw [l99, y99, z99] at X99
  obtain ⟨r99, rfl, Nq99, eq99⟩ := hQ99
  have N99 := Fr.app N0 Nq99
  refine own_st st99 ?_
  show own_Go _ _ _ _ (T99.setTop (mkF m 15 #[.val (.int u0), .val (.long u1), .second, .val (.int u2), .val (.ref b98), .unset, .unset] [(.int r99), (.int (0 : Int32)), (.ref b98)]))
  obtain ⟨cl100, Ar100, Kd100, Sz100, Nn100, Hs100, Gs100⟩ := id V98
  obtain ⟨T100, h100, X100, e100, W100, st100⟩ := stB X99 hx hZ eq99 Ar100 (j := (0 : Int32)) (inb_of Sz100 ⟨(by decide : ¬ ((0 : Int32) < (0 : Int32))), (by decide : (0 : Int32) < (8 : Int32))⟩) (g := (mkF m 15 #[.val (.int u0), .val (.long u1), .second, .val (.int u2), .val (.ref b98), .unset, .unset] [(.int r99), (.int (0 : Int32)), (.ref b98)])) rfl rfl (hb hby at_15)
  refine own_st st100 ?_
  have V100 := Arv.set Ar100 Kd100 Sz100 Nn100 Hs100 Gs100 (fits_nar_byte _) W100 0 rfl (Nat.le_of_ble_eq_true rfl)
  have V100' : Arv Z h100 b98 k98 .byte (8 : Int32) [(.int (nar .byte r99)), (.int (0 : Int32)), (.int (0 : Int32)), (.int (0 : Int32)), (.int (0 : Int32)), (.int (0 : Int32)), (.int (0 : Int32)), (.int (0 : Int32))] (.int (0 : Int32)) := V100
  have Z100 : n0 ≤ h100.size := Nat.le_trans Z98 (Nat.le_of_eq W100.size.symm)
  have N100 := Fr.snoc X100 N99 gnb98
  have K100 : Keep h0 h100 [] := K98.wr W100 (Or.inr gkb98)
  show own_Go _ _ _ _ (T100.setTop (mkF m 16 #[.val (.int u0), .val (.long u1), .second, .val (.int u2), .val (.ref b98), .unset, .unset] []))
  refine own_st (fun _ k => XS.aload X100.here hx rfl (hb hby at_16) rfl rfl k) ?_
  show own_Go _ _ _ _ (T100.setTop (mkF m 18 #[.val (.int u0), .val (.long u1), .second, .val (.int u2), .val (.ref b98), .unset, .unset] [(.ref b98)]))
  refine own_st (fun _ k => XS.iconst X100.here hx rfl (hb hby at_18) k) ?_
  show own_Go _ _ _ _ (T100.setTop (mkF m 19 #[.val (.int u0), .val (.long u1), .second, .val (.int u2), .val (.ref b98), .unset, .unset] [(.int (1 : Int32)), (.ref b98)]))
  refine own_st (fun _ k => XS.iloadN X100.here hx rfl (hb hby at_19) rfl k) ?_
  show own_Go _ _ _ _ (T100.setTop (mkF m 20 #[.val (.int u0), .val (.long u1), .second, .val (.int u2), .val (.ref b98), .unset, .unset] [(.int u0), (.int (1 : Int32)), (.ref b98)]))
  refine own_st (fun _ k => XS.lloadN X100.here hx rfl (hb hby at_20) rfl k) ?_
  show own_Go _ _ _ _ (T100.setTop (mkF m 21 #[.val (.int u0), .val (.long u1), .second, .val (.int u2), .val (.ref b98), .unset, .unset] [(.long u1), (.int u0), (.int (1 : Int32)), (.ref b98)]))
  refine own_st (fun _ k => XS.iconst X100.here hx rfl (hb hby at_21) k) ?_
  show own_Go _ _ _ _ (T100.setTop (mkF m 22 #[.val (.int u0), .val (.long u1), .second, .val (.int u2), .val (.ref b98), .unset, .unset] [(.int (1 : Int32)), (.long u1), (.int u0), (.int (1 : Int32)), (.ref b98)]))
  obtain ⟨_, _, ⟨T101, L101, k101, n101⟩, -, X101, ⟨Lc101, hQ101, l101, y101, z101⟩, st101⟩ := Jvm.LawKit.callS X100 hx (y := (⟨"HttpHeadEndPinLaw", "pick", "(IJI)B"⟩ : MethodName)) hown (mvT hZ (hw _ (List.mem_of_getElem? (i := 1) rfl))) (mvT hZ (hw _ (List.mem_of_getElem? (i := 2) rfl))) (mvT hZ (hw _ (List.mem_of_getElem? (i := 3) rfl))) (mvT hZ (hw _ (List.mem_of_getElem? (i := 4) rfl))) (by decide) (backOf (W := 2) (rm1 l Z a0 hw [] u0 u1 (1 : Int32) h100 n0 Z100) hZ (hw _ (List.mem_of_getElem? (i := 4) rfl)) (hw _ (List.mem_of_getElem? (i := 3) rfl)) (by decide) (by decide)) (g := (mkF m 22 #[.val (.int u0), .val (.long u1), .second, .val (.int u2), .val (.ref b98), .unset, .unset] [(.int (1 : Int32)), (.long u1), (.int u0), (.int (1 : Int32)), (.ref b98)])) rfl (by rw [hml]; rfl) (argsL := [(.int u0), (.long u1), (.int (1 : Int32))]) (rest := [(.int (1 : Int32)), (.ref b98)]) (lenOf own_pd0 rfl) rfl (by show 2 * 0 + _ ≤ _; exact Nat.le_of_eq rfl) (hb hby at_22) (fun _ _ => ⟨rfl, e100, (by decide : 1 + 0 ≤ _), (by decide : 8 + 0 ≤ _)⟩)
  dsimp only [Pt.U, Pt.locs, Pt.cells, Pt.slots] at X101 l101 y101 z101 st101 hQ101
  rw [l101, y101, z101] at X101
  obtain ⟨r101, rfl, Nq101, eq101⟩ := hQ101
  have N101 := Fr.app N100 Nq101
  refine own_st st101 ?_
  show own_Go _ _ _ _ (T101.setTop (mkF m 25 #[.val (.int u0), .val (.long u1), .second, .val (.int u2), .val (.ref b98), .unset, .unset] [(.int r101), (.int (1 : Int32)), (.ref b98)]))
  obtain ⟨cl102, Ar102, Kd102, Sz102, Nn102, Hs102, Gs102⟩ := id V100'
  obtain ⟨T102, h102, X102, e102, W102, st102⟩ := stB X101 hx hZ eq101 Ar102 (j := (1 : Int32)) (inb_of Sz102 ⟨(by decide : ¬ ((1 : Int32) < (0 : Int32))), (by decide : (1 : Int32) < (8 : Int32))⟩) (g := (mkF m 25 #[.val (.int u0), .val (.long u1), .second, .val (.int u2), .val (.ref b98), .unset, .unset] [(.int r101), (.int (1 : Int32)), (.ref b98)])) rfl rfl (hb hby at_25)
  refine own_st st102 ?_
  have V102 := Arv.set Ar102 Kd102 Sz102 Nn102 Hs102 Gs102 (fits_nar_byte _) W102 1 rfl (Nat.le_of_ble_eq_true rfl)
  have V102' : Arv Z h102 b98 k98 .byte (8 : Int32) [(.int (nar .byte r99)), (.int (nar .byte r101)), (.int (0 : Int32)), (.int (0 : Int32)), (.int (0 : Int32)), (.int (0 : Int32)), (.int (0 : Int32)), (.int (0 : Int32))] (.int (0 : Int32)) := V102
  have Z102 : n0 ≤ h102.size := Nat.le_trans Z100 (Nat.le_of_eq W102.size.symm)
  have N102 := Fr.snoc X102 N101 gnb98
  have K102 : Keep h0 h102 [] := K100.wr W102 (Or.inr gkb98)
  show own_Go _ _ _ _ (T102.setTop (mkF m 26 #[.val (.int u0), .val (.long u1), .second, .val (.int u2), .val (.ref b98), .unset, .unset] []))
  refine own_st (fun _ k => XS.aload X102.here hx rfl (hb hby at_26) rfl rfl k) ?_
  show own_Go _ _ _ _ (T102.setTop (mkF m 28 #[.val (.int u0), .val (.long u1), .second, .val (.int u2), .val (.ref b98), .unset, .unset] [(.ref b98)]))
  refine own_st (fun _ k => XS.iconst X102.here hx rfl (hb hby at_28) k) ?_
  show own_Go _ _ _ _ (T102.setTop (mkF m 29 #[.val (.int u0), .val (.long u1), .second, .val (.int u2), .val (.ref b98), .unset, .unset] [(.int (2 : Int32)), (.ref b98)]))
  refine own_st (fun _ k => XS.iloadN X102.here hx rfl (hb hby at_29) rfl k) ?_
  show own_Go _ _ _ _ (T102.setTop (mkF m 30 #[.val (.int u0), .val (.long u1), .second, .val (.int u2), .val (.ref b98), .unset, .unset] [(.int u0), (.int (2 : Int32)), (.ref b98)]))
  refine own_st (fun _ k => XS.lloadN X102.here hx rfl (hb hby at_30) rfl k) ?_
  show own_Go _ _ _ _ (T102.setTop (mkF m 31 #[.val (.int u0), .val (.long u1), .second, .val (.int u2), .val (.ref b98), .unset, .unset] [(.long u1), (.int u0), (.int (2 : Int32)), (.ref b98)]))
  refine own_st (fun _ k => XS.iconst X102.here hx rfl (hb hby at_31) k) ?_
  show own_Go _ _ _ _ (T102.setTop (mkF m 32 #[.val (.int u0), .val (.long u1), .second, .val (.int u2), .val (.ref b98), .unset, .unset] [(.int (2 : Int32)), (.long u1), (.int u0), (.int (2 : Int32)), (.ref b98)]))
  obtain ⟨_, _, ⟨T103, L103, k103, n103⟩, -, X103, ⟨Lc103, hQ103, l103, y103, z103⟩, st103⟩ := Jvm.LawKit.callS X102 hx (y := (⟨"HttpHeadEndPinLaw", "pick", "(IJI)B"⟩ : MethodName)) hown (mvT hZ (hw _ (List.mem_of_getElem? (i := 1) rfl))) (mvT hZ (hw _ (List.mem_of_getElem? (i := 2) rfl))) (mvT hZ (hw _ (List.mem_of_getElem? (i := 3) rfl))) (mvT hZ (hw _ (List.mem_of_getElem? (i := 4) rfl))) (by decide) (backOf (W := 2) (rm1 l Z a0 hw [] u0 u1 (2 : Int32) h102 n0 Z102) hZ (hw _ (List.mem_of_getElem? (i := 4) rfl)) (hw _ (List.mem_of_getElem? (i := 3) rfl)) (by decide) (by decide)) (g := (mkF m 32 #[.val (.int u0), .val (.long u1), .second, .val (.int u2), .val (.ref b98), .unset, .unset] [(.int (2 : Int32)), (.long u1), (.int u0), (.int (2 : Int32)), (.ref b98)])) rfl (by rw [hml]; rfl) (argsL := [(.int u0), (.long u1), (.int (2 : Int32))]) (rest := [(.int (2 : Int32)), (.ref b98)]) (lenOf own_pd0 rfl) rfl (by show 2 * 0 + _ ≤ _; exact Nat.le_of_eq rfl) (hb hby at_32) (fun _ _ => ⟨rfl, e102, (by decide : 1 + 0 ≤ _), (by decide : 8 + 0 ≤ _)⟩)
  dsimp only [Pt.U, Pt.locs, Pt.cells, Pt.slots] at X103 l103 y103 z103 st103 hQ103
  rw [l103, y103, z103] at X103
  obtain ⟨r103, rfl, Nq103, eq103⟩ := hQ103
  have N103 := Fr.app N102 Nq103
  refine own_st st103 ?_
  show own_Go _ _ _ _ (T103.setTop (mkF m 35 #[.val (.int u0), .val (.long u1), .second, .val (.int u2), .val (.ref b98), .unset, .unset] [(.int r103), (.int (2 : Int32)), (.ref b98)]))
  obtain ⟨cl104, Ar104, Kd104, Sz104, Nn104, Hs104, Gs104⟩ := id V102'
  obtain ⟨T104, h104, X104, e104, W104, st104⟩ := stB X103 hx hZ eq103 Ar104 (j := (2 : Int32)) (inb_of Sz104 ⟨(by decide : ¬ ((2 : Int32) < (0 : Int32))), (by decide : (2 : Int32) < (8 : Int32))⟩) (g := (mkF m 35 #[.val (.int u0), .val (.long u1), .second, .val (.int u2), .val (.ref b98), .unset, .unset] [(.int r103), (.int (2 : Int32)), (.ref b98)])) rfl rfl (hb hby at_35)
  refine own_st st104 ?_
  have V104 := Arv.set Ar104 Kd104 Sz104 Nn104 Hs104 Gs104 (fits_nar_byte _) W104 2 rfl (Nat.le_of_ble_eq_true rfl)
  have V104' : Arv Z h104 b98 k98 .byte (8 : Int32) [(.int (nar .byte r99)), (.int (nar .byte r101)), (.int (nar .byte r103)), (.int (0 : Int32)), (.int (0 : Int32)), (.int (0 : Int32)), (.int (0 : Int32)), (.int (0 : Int32))] (.int (0 : Int32)) := V104
  have Z104 : n0 ≤ h104.size := Nat.le_trans Z102 (Nat.le_of_eq W104.size.symm)
  have N104 := Fr.snoc X104 N103 gnb98
  have K104 : Keep h0 h104 [] := K102.wr W104 (Or.inr gkb98)
  show own_Go _ _ _ _ (T104.setTop (mkF m 36 #[.val (.int u0), .val (.long u1), .second, .val (.int u2), .val (.ref b98), .unset, .unset] []))
  refine own_st (fun _ k => XS.aload X104.here hx rfl (hb hby at_36) rfl rfl k) ?_
  show own_Go _ _ _ _ (T104.setTop (mkF m 38 #[.val (.int u0), .val (.long u1), .second, .val (.int u2), .val (.ref b98), .unset, .unset] [(.ref b98)]))
  refine own_st (fun _ k => XS.iconst X104.here hx rfl (hb hby at_38) k) ?_
  show own_Go _ _ _ _ (T104.setTop (mkF m 39 #[.val (.int u0), .val (.long u1), .second, .val (.int u2), .val (.ref b98), .unset, .unset] [(.int (3 : Int32)), (.ref b98)]))
  refine own_st (fun _ k => XS.iloadN X104.here hx rfl (hb hby at_39) rfl k) ?_
  show own_Go _ _ _ _ (T104.setTop (mkF m 40 #[.val (.int u0), .val (.long u1), .second, .val (.int u2), .val (.ref b98), .unset, .unset] [(.int u0), (.int (3 : Int32)), (.ref b98)]))
  refine own_st (fun _ k => XS.lloadN X104.here hx rfl (hb hby at_40) rfl k) ?_
  show own_Go _ _ _ _ (T104.setTop (mkF m 41 #[.val (.int u0), .val (.long u1), .second, .val (.int u2), .val (.ref b98), .unset, .unset] [(.long u1), (.int u0), (.int (3 : Int32)), (.ref b98)]))
  refine own_st (fun _ k => XS.iconst X104.here hx rfl (hb hby at_41) k) ?_
  show own_Go _ _ _ _ (T104.setTop (mkF m 42 #[.val (.int u0), .val (.long u1), .second, .val (.int u2), .val (.ref b98), .unset, .unset] [(.int (3 : Int32)), (.long u1), (.int u0), (.int (3 : Int32)), (.ref b98)]))
  obtain ⟨_, _, ⟨T105, L105, k105, n105⟩, -, X105, ⟨Lc105, hQ105, l105, y105, z105⟩, st105⟩ := Jvm.LawKit.callS X104 hx (y := (⟨"HttpHeadEndPinLaw", "pick", "(IJI)B"⟩ : MethodName)) hown (mvT hZ (hw _ (List.mem_of_getElem? (i := 1) rfl))) (mvT hZ (hw _ (List.mem_of_getElem? (i := 2) rfl))) (mvT hZ (hw _ (List.mem_of_getElem? (i := 3) rfl))) (mvT hZ (hw _ (List.mem_of_getElem? (i := 4) rfl))) (by decide) (backOf (W := 2) (rm1 l Z a0 hw [] u0 u1 (3 : Int32) h104 n0 Z104) hZ (hw _ (List.mem_of_getElem? (i := 4) rfl)) (hw _ (List.mem_of_getElem? (i := 3) rfl)) (by decide) (by decide)) (g := (mkF m 42 #[.val (.int u0), .val (.long u1), .second, .val (.int u2), .val (.ref b98), .unset, .unset] [(.int (3 : Int32)), (.long u1), (.int u0), (.int (3 : Int32)), (.ref b98)])) rfl (by rw [hml]; rfl) (argsL := [(.int u0), (.long u1), (.int (3 : Int32))]) (rest := [(.int (3 : Int32)), (.ref b98)]) (lenOf own_pd0 rfl) rfl (by show 2 * 0 + _ ≤ _; exact Nat.le_of_eq rfl) (hb hby at_42) (fun _ _ => ⟨rfl, e104, (by decide : 1 + 0 ≤ _), (by decide : 8 + 0 ≤ _)⟩)
  dsimp only [Pt.U, Pt.locs, Pt.cells, Pt.slots] at X105 l105 y105 z105 st105 hQ105
  rw [l105, y105, z105] at X105
  obtain ⟨r105, rfl, Nq105, eq105⟩ := hQ105
  have N105 := Fr.app N104 Nq105
  refine own_st st105 ?_
  show own_Go _ _ _ _ (T105.setTop (mkF m 45 #[.val (.int u0), .val (.long u1), .second, .val (.int u2), .val (.ref b98), .unset, .unset] [(.int r105), (.int (3 : Int32)), (.ref b98)]))
  obtain ⟨cl106, Ar106, Kd106, Sz106, Nn106, Hs106, Gs106⟩ := id V104'
  obtain ⟨T106, h106, X106, e106, W106, st106⟩ := stB X105 hx hZ eq105 Ar106 (j := (3 : Int32)) (inb_of Sz106 ⟨(by decide : ¬ ((3 : Int32) < (0 : Int32))), (by decide : (3 : Int32) < (8 : Int32))⟩) (g := (mkF m 45 #[.val (.int u0), .val (.long u1), .second, .val (.int u2), .val (.ref b98), .unset, .unset] [(.int r105), (.int (3 : Int32)), (.ref b98)])) rfl rfl (hb hby at_45)
  refine own_st st106 ?_
  have V106 := Arv.set Ar106 Kd106 Sz106 Nn106 Hs106 Gs106 (fits_nar_byte _) W106 3 rfl (Nat.le_of_ble_eq_true rfl)
  have V106' : Arv Z h106 b98 k98 .byte (8 : Int32) [(.int (nar .byte r99)), (.int (nar .byte r101)), (.int (nar .byte r103)), (.int (nar .byte r105)), (.int (0 : Int32)), (.int (0 : Int32)), (.int (0 : Int32)), (.int (0 : Int32))] (.int (0 : Int32)) := V106
  have Z106 : n0 ≤ h106.size := Nat.le_trans Z104 (Nat.le_of_eq W106.size.symm)
  have N106 := Fr.snoc X106 N105 gnb98
  have K106 : Keep h0 h106 [] := K104.wr W106 (Or.inr gkb98)
  show own_Go _ _ _ _ (T106.setTop (mkF m 46 #[.val (.int u0), .val (.long u1), .second, .val (.int u2), .val (.ref b98), .unset, .unset] []))
  refine own_st (fun _ k => XS.aload X106.here hx rfl (hb hby at_46) rfl rfl k) ?_
  show own_Go _ _ _ _ (T106.setTop (mkF m 48 #[.val (.int u0), .val (.long u1), .second, .val (.int u2), .val (.ref b98), .unset, .unset] [(.ref b98)]))
  refine own_st (fun _ k => XS.iconst X106.here hx rfl (hb hby at_48) k) ?_
  show own_Go _ _ _ _ (T106.setTop (mkF m 49 #[.val (.int u0), .val (.long u1), .second, .val (.int u2), .val (.ref b98), .unset, .unset] [(.int (4 : Int32)), (.ref b98)]))
  refine own_st (fun _ k => XS.iloadN X106.here hx rfl (hb hby at_49) rfl k) ?_
  show own_Go _ _ _ _ (T106.setTop (mkF m 50 #[.val (.int u0), .val (.long u1), .second, .val (.int u2), .val (.ref b98), .unset, .unset] [(.int u0), (.int (4 : Int32)), (.ref b98)]))
  refine own_st (fun _ k => XS.lloadN X106.here hx rfl (hb hby at_50) rfl k) ?_
  show own_Go _ _ _ _ (T106.setTop (mkF m 51 #[.val (.int u0), .val (.long u1), .second, .val (.int u2), .val (.ref b98), .unset, .unset] [(.long u1), (.int u0), (.int (4 : Int32)), (.ref b98)]))
  refine own_st (fun _ k => XS.iconst X106.here hx rfl (hb hby at_51) k) ?_
  show own_Go _ _ _ _ (T106.setTop (mkF m 52 #[.val (.int u0), .val (.long u1), .second, .val (.int u2), .val (.ref b98), .unset, .unset] [(.int (4 : Int32)), (.long u1), (.int u0), (.int (4 : Int32)), (.ref b98)]))
  obtain ⟨_, _, ⟨T107, L107, k107, n107⟩, -, X107, ⟨Lc107, hQ107, l107, y107, z107⟩, st107⟩ := Jvm.LawKit.callS X106 hx (y := (⟨"HttpHeadEndPinLaw", "pick", "(IJI)B"⟩ : MethodName)) hown (mvT hZ (hw _ (List.mem_of_getElem? (i := 1) rfl))) (mvT hZ (hw _ (List.mem_of_getElem? (i := 2) rfl))) (mvT hZ (hw _ (List.mem_of_getElem? (i := 3) rfl))) (mvT hZ (hw _ (List.mem_of_getElem? (i := 4) rfl))) (by decide) (backOf (W := 2) (rm1 l Z a0 hw [] u0 u1 (4 : Int32) h106 n0 Z106) hZ (hw _ (List.mem_of_getElem? (i := 4) rfl)) (hw _ (List.mem_of_getElem? (i := 3) rfl)) (by decide) (by decide)) (g := (mkF m 52 #[.val (.int u0), .val (.long u1), .second, .val (.int u2), .val (.ref b98), .unset, .unset] [(.int (4 : Int32)), (.long u1), (.int u0), (.int (4 : Int32)), (.ref b98)])) rfl (by rw [hml]; rfl) (argsL := [(.int u0), (.long u1), (.int (4 : Int32))]) (rest := [(.int (4 : Int32)), (.ref b98)]) (lenOf own_pd0 rfl) rfl (by show 2 * 0 + _ ≤ _; exact Nat.le_of_eq rfl) (hb hby at_52) (fun _ _ => ⟨rfl, e106, (by decide : 1 + 0 ≤ _), (by decide : 8 + 0 ≤ _)⟩)
  dsimp only [Pt.U, Pt.locs, Pt.cells, Pt.slots] at X107 l107 y107 z107 st107 hQ107
  rw [l107, y107, z107] at X107
  obtain ⟨r107, rfl, Nq107, eq107⟩ := hQ107
  have N107 := Fr.app N106 Nq107
  refine own_st st107 ?_
  show own_Go _ _ _ _ (T107.setTop (mkF m 55 #[.val (.int u0), .val (.long u1), .second, .val (.int u2), .val (.ref b98), .unset, .unset] [(.int r107), (.int (4 : Int32)), (.ref b98)]))
  obtain ⟨cl108, Ar108, Kd108, Sz108, Nn108, Hs108, Gs108⟩ := id V106'
  obtain ⟨T108, h108, X108, e108, W108, st108⟩ := stB X107 hx hZ eq107 Ar108 (j := (4 : Int32)) (inb_of Sz108 ⟨(by decide : ¬ ((4 : Int32) < (0 : Int32))), (by decide : (4 : Int32) < (8 : Int32))⟩) (g := (mkF m 55 #[.val (.int u0), .val (.long u1), .second, .val (.int u2), .val (.ref b98), .unset, .unset] [(.int r107), (.int (4 : Int32)), (.ref b98)])) rfl rfl (hb hby at_55)
  refine own_st st108 ?_
  have V108 := Arv.set Ar108 Kd108 Sz108 Nn108 Hs108 Gs108 (fits_nar_byte _) W108 4 rfl (Nat.le_of_ble_eq_true rfl)
  have V108' : Arv Z h108 b98 k98 .byte (8 : Int32) [(.int (nar .byte r99)), (.int (nar .byte r101)), (.int (nar .byte r103)), (.int (nar .byte r105)), (.int (nar .byte r107)), (.int (0 : Int32)), (.int (0 : Int32)), (.int (0 : Int32))] (.int (0 : Int32)) := V108
  have Z108 : n0 ≤ h108.size := Nat.le_trans Z106 (Nat.le_of_eq W108.size.symm)
  have N108 := Fr.snoc X108 N107 gnb98
  have K108 : Keep h0 h108 [] := K106.wr W108 (Or.inr gkb98)
  show own_Go _ _ _ _ (T108.setTop (mkF m 56 #[.val (.int u0), .val (.long u1), .second, .val (.int u2), .val (.ref b98), .unset, .unset] []))
  refine own_st (fun _ k => XS.aload X108.here hx rfl (hb hby at_56) rfl rfl k) ?_
  show own_Go _ _ _ _ (T108.setTop (mkF m 58 #[.val (.int u0), .val (.long u1), .second, .val (.int u2), .val (.ref b98), .unset, .unset] [(.ref b98)]))
  refine own_st (fun _ k => XS.iconst X108.here hx rfl (hb hby at_58) k) ?_
  show own_Go _ _ _ _ (T108.setTop (mkF m 59 #[.val (.int u0), .val (.long u1), .second, .val (.int u2), .val (.ref b98), .unset, .unset] [(.int (5 : Int32)), (.ref b98)]))
  refine own_st (fun _ k => XS.iloadN X108.here hx rfl (hb hby at_59) rfl k) ?_
  show own_Go _ _ _ _ (T108.setTop (mkF m 60 #[.val (.int u0), .val (.long u1), .second, .val (.int u2), .val (.ref b98), .unset, .unset] [(.int u0), (.int (5 : Int32)), (.ref b98)]))
  refine own_st (fun _ k => XS.lloadN X108.here hx rfl (hb hby at_60) rfl k) ?_
  show own_Go _ _ _ _ (T108.setTop (mkF m 61 #[.val (.int u0), .val (.long u1), .second, .val (.int u2), .val (.ref b98), .unset, .unset] [(.long u1), (.int u0), (.int (5 : Int32)), (.ref b98)]))
  refine own_st (fun _ k => XS.iconst X108.here hx rfl (hb hby at_61) k) ?_
  show own_Go _ _ _ _ (T108.setTop (mkF m 62 #[.val (.int u0), .val (.long u1), .second, .val (.int u2), .val (.ref b98), .unset, .unset] [(.int (5 : Int32)), (.long u1), (.int u0), (.int (5 : Int32)), (.ref b98)]))
  obtain ⟨_, _, ⟨T109, L109, k109, n109⟩, -, X109, ⟨Lc109, hQ109, l109, y109, z109⟩, st109⟩ := Jvm.LawKit.callS X108 hx (y := (⟨"HttpHeadEndPinLaw", "pick", "(IJI)B"⟩ : MethodName)) hown (mvT hZ (hw _ (List.mem_of_getElem? (i := 1) rfl))) (mvT hZ (hw _ (List.mem_of_getElem? (i := 2) rfl))) (mvT hZ (hw _ (List.mem_of_getElem? (i := 3) rfl))) (mvT hZ (hw _ (List.mem_of_getElem? (i := 4) rfl))) (by decide) (backOf (W := 2) (rm1 l Z a0 hw [] u0 u1 (5 : Int32) h108 n0 Z108) hZ (hw _ (List.mem_of_getElem? (i := 4) rfl)) (hw _ (List.mem_of_getElem? (i := 3) rfl)) (by decide) (by decide)) (g := (mkF m 62 #[.val (.int u0), .val (.long u1), .second, .val (.int u2), .val (.ref b98), .unset, .unset] [(.int (5 : Int32)), (.long u1), (.int u0), (.int (5 : Int32)), (.ref b98)])) rfl (by rw [hml]; rfl) (argsL := [(.int u0), (.long u1), (.int (5 : Int32))]) (rest := [(.int (5 : Int32)), (.ref b98)]) (lenOf own_pd0 rfl) rfl (by show 2 * 0 + _ ≤ _; exact Nat.le_of_eq rfl) (hb hby at_62) (fun _ _ => ⟨rfl, e108, (by decide : 1 + 0 ≤ _), (by decide : 8 + 0 ≤ _)⟩)
  dsimp only [Pt.U, Pt.locs, Pt.cells, Pt.slots] at X109 l109 y109 z109 st109 hQ109
  rw [l109, y109, z109] at X109
  obtain ⟨r109, rfl, Nq109, eq109⟩ := hQ109
  have N109 := Fr.app N108 Nq109
  refine own_st st109 ?_
  show own_Go _ _ _ _ (T109.setTop (mkF m 65 #[.val (.int u0), .val (.long u1), .second, .val (.int u2), .val (.ref b98), .unset, .unset] [(.int r109), (.int (5 : Int32)), (.ref b98)]))
  obtain ⟨cl110, Ar110, Kd110, Sz110, Nn110, Hs110, Gs110⟩ := id V108'
  obtain ⟨T110, h110, X110, e110, W110, st110⟩ := stB X109 hx hZ eq109 Ar110 (j := (5 : Int32)) (inb_of Sz110 ⟨(by decide : ¬ ((5 : Int32) < (0 : Int32))), (by decide : (5 : Int32) < (8 : Int32))⟩) (g := (mkF m 65 #[.val (.int u0), .val (.long u1), .second, .val (.int u2), .val (.ref b98), .unset, .unset] [(.int r109), (.int (5 : Int32)), (.ref b98)])) rfl rfl (hb hby at_65)
  refine own_st st110 ?_
  have V110 := Arv.set Ar110 Kd110 Sz110 Nn110 Hs110 Gs110 (fits_nar_byte _) W110 5 rfl (Nat.le_of_ble_eq_true rfl)
  have V110' : Arv Z h110 b98 k98 .byte (8 : Int32) [(.int (nar .byte r99)), (.int (nar .byte r101)), (.int (nar .byte r103)), (.int (nar .byte r105)), (.int (nar .byte r107)), (.int (nar .byte r109)), (.int (0 : Int32)), (.int (0 : Int32))] (.int (0 : Int32)) := V110
  have Z110 : n0 ≤ h110.size := Nat.le_trans Z108 (Nat.le_of_eq W110.size.symm)
  have N110 := Fr.snoc X110 N109 gnb98
  have K110 : Keep h0 h110 [] := K108.wr W110 (Or.inr gkb98)
  show own_Go _ _ _ _ (T110.setTop (mkF m 66 #[.val (.int u0), .val (.long u1), .second, .val (.int u2), .val (.ref b98), .unset, .unset] []))
  refine own_st (fun _ k => XS.aload X110.here hx rfl (hb hby at_66) rfl rfl k) ?_
  show own_Go _ _ _ _ (T110.setTop (mkF m 68 #[.val (.int u0), .val (.long u1), .second, .val (.int u2), .val (.ref b98), .unset, .unset] [(.ref b98)]))
  refine own_st (fun _ k => XS.bipush X110.here hx rfl (hb hby at_68) k) ?_
  show own_Go _ _ _ _ (T110.setTop (mkF m 70 #[.val (.int u0), .val (.long u1), .second, .val (.int u2), .val (.ref b98), .unset, .unset] [(.int (6 : Int32)), (.ref b98)]))
  refine own_st (fun _ k => XS.iloadN X110.here hx rfl (hb hby at_70) rfl k) ?_
  show own_Go _ _ _ _ (T110.setTop (mkF m 71 #[.val (.int u0), .val (.long u1), .second, .val (.int u2), .val (.ref b98), .unset, .unset] [(.int u0), (.int (6 : Int32)), (.ref b98)]))
  refine own_st (fun _ k => XS.lloadN X110.here hx rfl (hb hby at_71) rfl k) ?_
  show own_Go _ _ _ _ (T110.setTop (mkF m 72 #[.val (.int u0), .val (.long u1), .second, .val (.int u2), .val (.ref b98), .unset, .unset] [(.long u1), (.int u0), (.int (6 : Int32)), (.ref b98)]))
  refine own_st (fun _ k => XS.bipush X110.here hx rfl (hb hby at_72) k) ?_
  show own_Go _ _ _ _ (T110.setTop (mkF m 74 #[.val (.int u0), .val (.long u1), .second, .val (.int u2), .val (.ref b98), .unset, .unset] [(.int (6 : Int32)), (.long u1), (.int u0), (.int (6 : Int32)), (.ref b98)]))
  obtain ⟨_, _, ⟨T111, L111, k111, n111⟩, -, X111, ⟨Lc111, hQ111, l111, y111, z111⟩, st111⟩ := Jvm.LawKit.callS X110 hx (y := (⟨"HttpHeadEndPinLaw", "pick", "(IJI)B"⟩ : MethodName)) hown (mvT hZ (hw _ (List.mem_of_getElem? (i := 1) rfl))) (mvT hZ (hw _ (List.mem_of_getElem? (i := 2) rfl))) (mvT hZ (hw _ (List.mem_of_getElem? (i := 3) rfl))) (mvT hZ (hw _ (List.mem_of_getElem? (i := 4) rfl))) (by decide) (backOf (W := 2) (rm1 l Z a0 hw [] u0 u1 (6 : Int32) h110 n0 Z110) hZ (hw _ (List.mem_of_getElem? (i := 4) rfl)) (hw _ (List.mem_of_getElem? (i := 3) rfl)) (by decide) (by decide)) (g := (mkF m 74 #[.val (.int u0), .val (.long u1), .second, .val (.int u2), .val (.ref b98), .unset, .unset] [(.int (6 : Int32)), (.long u1), (.int u0), (.int (6 : Int32)), (.ref b98)])) rfl (by rw [hml]; rfl) (argsL := [(.int u0), (.long u1), (.int (6 : Int32))]) (rest := [(.int (6 : Int32)), (.ref b98)]) (lenOf own_pd0 rfl) rfl (by show 2 * 0 + _ ≤ _; exact Nat.le_of_eq rfl) (hb hby at_74) (fun _ _ => ⟨rfl, e110, (by decide : 1 + 0 ≤ _), (by decide : 8 + 0 ≤ _)⟩)
  dsimp only [Pt.U, Pt.locs, Pt.cells, Pt.slots] at X111 l111 y111 z111 st111 hQ111
  rw [l111, y111, z111] at X111
  obtain ⟨r111, rfl, Nq111, eq111⟩ := hQ111
  have N111 := Fr.app N110 Nq111
  refine own_st st111 ?_
  show own_Go _ _ _ _ (T111.setTop (mkF m 77 #[.val (.int u0), .val (.long u1), .second, .val (.int u2), .val (.ref b98), .unset, .unset] [(.int r111), (.int (6 : Int32)), (.ref b98)]))
  obtain ⟨cl112, Ar112, Kd112, Sz112, Nn112, Hs112, Gs112⟩ := id V110'
  obtain ⟨T112, h112, X112, e112, W112, st112⟩ := stB X111 hx hZ eq111 Ar112 (j := (6 : Int32)) (inb_of Sz112 ⟨(by decide : ¬ ((6 : Int32) < (0 : Int32))), (by decide : (6 : Int32) < (8 : Int32))⟩) (g := (mkF m 77 #[.val (.int u0), .val (.long u1), .second, .val (.int u2), .val (.ref b98), .unset, .unset] [(.int r111), (.int (6 : Int32)), (.ref b98)])) rfl rfl (hb hby at_77)
  refine own_st st112 ?_
  have V112 := Arv.set Ar112 Kd112 Sz112 Nn112 Hs112 Gs112 (fits_nar_byte _) W112 6 rfl (Nat.le_of_ble_eq_true rfl)
  have V112' : Arv Z h112 b98 k98 .byte (8 : Int32) [(.int (nar .byte r99)), (.int (nar .byte r101)), (.int (nar .byte r103)), (.int (nar .byte r105)), (.int (nar .byte r107)), (.int (nar .byte r109)), (.int (nar .byte r111)), (.int (0 : Int32))] (.int (0 : Int32)) := V112
  have Z112 : n0 ≤ h112.size := Nat.le_trans Z110 (Nat.le_of_eq W112.size.symm)
  have N112 := Fr.snoc X112 N111 gnb98
  have K112 : Keep h0 h112 [] := K110.wr W112 (Or.inr gkb98)
  show own_Go _ _ _ _ (T112.setTop (mkF m 78 #[.val (.int u0), .val (.long u1), .second, .val (.int u2), .val (.ref b98), .unset, .unset] []))
  refine own_st (fun _ k => XS.aload X112.here hx rfl (hb hby at_78) rfl rfl k) ?_
  show own_Go _ _ _ _ (T112.setTop (mkF m 80 #[.val (.int u0), .val (.long u1), .second, .val (.int u2), .val (.ref b98), .unset, .unset] [(.ref b98)]))
  refine own_st (fun _ k => XS.bipush X112.here hx rfl (hb hby at_80) k) ?_
  show own_Go _ _ _ _ (T112.setTop (mkF m 82 #[.val (.int u0), .val (.long u1), .second, .val (.int u2), .val (.ref b98), .unset, .unset] [(.int (7 : Int32)), (.ref b98)]))
  refine own_st (fun _ k => XS.iloadN X112.here hx rfl (hb hby at_82) rfl k) ?_
  show own_Go _ _ _ _ (T112.setTop (mkF m 83 #[.val (.int u0), .val (.long u1), .second, .val (.int u2), .val (.ref b98), .unset, .unset] [(.int u0), (.int (7 : Int32)), (.ref b98)]))
  refine own_st (fun _ k => XS.lloadN X112.here hx rfl (hb hby at_83) rfl k) ?_
  show own_Go _ _ _ _ (T112.setTop (mkF m 84 #[.val (.int u0), .val (.long u1), .second, .val (.int u2), .val (.ref b98), .unset, .unset] [(.long u1), (.int u0), (.int (7 : Int32)), (.ref b98)]))
  refine own_st (fun _ k => XS.bipush X112.here hx rfl (hb hby at_84) k) ?_
  show own_Go _ _ _ _ (T112.setTop (mkF m 86 #[.val (.int u0), .val (.long u1), .second, .val (.int u2), .val (.ref b98), .unset, .unset] [(.int (7 : Int32)), (.long u1), (.int u0), (.int (7 : Int32)), (.ref b98)]))
  obtain ⟨_, _, ⟨T113, L113, k113, n113⟩, -, X113, ⟨Lc113, hQ113, l113, y113, z113⟩, st113⟩ := Jvm.LawKit.callS X112 hx (y := (⟨"HttpHeadEndPinLaw", "pick", "(IJI)B"⟩ : MethodName)) hown (mvT hZ (hw _ (List.mem_of_getElem? (i := 1) rfl))) (mvT hZ (hw _ (List.mem_of_getElem? (i := 2) rfl))) (mvT hZ (hw _ (List.mem_of_getElem? (i := 3) rfl))) (mvT hZ (hw _ (List.mem_of_getElem? (i := 4) rfl))) (by decide) (backOf (W := 2) (rm1 l Z a0 hw [] u0 u1 (7 : Int32) h112 n0 Z112) hZ (hw _ (List.mem_of_getElem? (i := 4) rfl)) (hw _ (List.mem_of_getElem? (i := 3) rfl)) (by decide) (by decide)) (g := (mkF m 86 #[.val (.int u0), .val (.long u1), .second, .val (.int u2), .val (.ref b98), .unset, .unset] [(.int (7 : Int32)), (.long u1), (.int u0), (.int (7 : Int32)), (.ref b98)])) rfl (by rw [hml]; rfl) (argsL := [(.int u0), (.long u1), (.int (7 : Int32))]) (rest := [(.int (7 : Int32)), (.ref b98)]) (lenOf own_pd0 rfl) rfl (by show 2 * 0 + _ ≤ _; exact Nat.le_of_eq rfl) (hb hby at_86) (fun _ _ => ⟨rfl, e112, (by decide : 1 + 0 ≤ _), (by decide : 8 + 0 ≤ _)⟩)
  dsimp only [Pt.U, Pt.locs, Pt.cells, Pt.slots] at X113 l113 y113 z113 st113 hQ113
  rw [l113, y113, z113] at X113
  obtain ⟨r113, rfl, Nq113, eq113⟩ := hQ113
  have N113 := Fr.app N112 Nq113
  refine own_st st113 ?_
  show own_Go _ _ _ _ (T113.setTop (mkF m 89 #[.val (.int u0), .val (.long u1), .second, .val (.int u2), .val (.ref b98), .unset, .unset] [(.int r113), (.int (7 : Int32)), (.ref b98)]))
  obtain ⟨cl114, Ar114, Kd114, Sz114, Nn114, Hs114, Gs114⟩ := id V112'
  obtain ⟨T114, h114, X114, e114, W114, st114⟩ := stB X113 hx hZ eq113 Ar114 (j := (7 : Int32)) (inb_of Sz114 ⟨(by decide : ¬ ((7 : Int32) < (0 : Int32))), (by decide : (7 : Int32) < (8 : Int32))⟩) (g := (mkF m 89 #[.val (.int u0), .val (.long u1), .second, .val (.int u2), .val (.ref b98), .unset, .unset] [(.int r113), (.int (7 : Int32)), (.ref b98)])) rfl rfl (hb hby at_89)
  refine own_st st114 ?_
  have V114 := Arv.set Ar114 Kd114 Sz114 Nn114 Hs114 Gs114 (fits_nar_byte _) W114 7 rfl (Nat.le_of_ble_eq_true rfl)
  have V114' : Arv Z h114 b98 k98 .byte (8 : Int32) [(.int (nar .byte r99)), (.int (nar .byte r101)), (.int (nar .byte r103)), (.int (nar .byte r105)), (.int (nar .byte r107)), (.int (nar .byte r109)), (.int (nar .byte r111)), (.int (nar .byte r113))] (.int (0 : Int32)) := V114
  have Z114 : n0 ≤ h114.size := Nat.le_trans Z112 (Nat.le_of_eq W114.size.symm)
  have N114 := Fr.snoc X114 N113 gnb98
  have K114 : Keep h0 h114 [] := K112.wr W114 (Or.inr gkb98)
  show own_Go _ _ _ _ (T114.setTop (mkF m 90 #[.val (.int u0), .val (.long u1), .second, .val (.int u2), .val (.ref b98), .unset, .unset] []))
  refine own_st (fun _ k => XS.iloadN X114.here hx rfl (hb hby at_90) rfl k) ?_
  show own_Go _ _ _ _ (T114.setTop (mkF m 91 #[.val (.int u0), .val (.long u1), .second, .val (.int u2), .val (.ref b98), .unset, .unset] [(.int u2)]))
  refine own_st (fun _ k => XS.bipush X114.here hx rfl (hb hby at_91) k) ?_
  show own_Go _ _ _ _ (T114.setTop (mkF m 93 #[.val (.int u0), .val (.long u1), .second, .val (.int u2), .val (.ref b98), .unset, .unset] [(.int (15 : Int32)), (.int u2)]))
  refine own_st (fun _ k => XS.iand X114.here hx rfl (hb hby at_93) rfl k) ?_
  show own_Go _ _ _ _ (T114.setTop (mkF m 94 #[.val (.int u0), .val (.long u1), .second, .val (.int u2), .val (.ref b98), .unset, .unset] [(.int (u2 &&& (15 : Int32)))]))
  refine own_st (fun _ k => XS.bipush X114.here hx rfl (hb hby at_94) k) ?_
  show own_Go _ _ _ _ (T114.setTop (mkF m 96 #[.val (.int u0), .val (.long u1), .second, .val (.int u2), .val (.ref b98), .unset, .unset] [(.int (9 : Int32)), (.int (u2 &&& (15 : Int32)))]))
  refine own_st (fun _ k => XS.irem X114.here hx rfl (hb hby at_96) rfl (by decide : ¬ ((9 : Int32) = (0 : Int32))) k) ?_
  show own_Go _ _ _ _ (T114.setTop (mkF m 97 #[.val (.int u0), .val (.long u1), .second, .val (.int u2), .val (.ref b98), .unset, .unset] [(.int ((u2 &&& (15 : Int32)) - ((u2 &&& (15 : Int32)) / (9 : Int32)) * (9 : Int32)))]))
  refine own_st (fun _ k => XS.istore X114.here hx rfl (hb hby at_97) rfl (l' := #[.val (.int u0), .val (.long u1), .second, .val (.int u2), .val (.ref b98), .val (.int ((u2 &&& (15 : Int32)) - ((u2 &&& (15 : Int32)) / (9 : Int32)) * (9 : Int32))), .unset]) rfl k) ?_
  show own_Go _ _ _ _ (T114.setTop (mkF m 99 #[.val (.int u0), .val (.long u1), .second, .val (.int u2), .val (.ref b98), .val (.int ((u2 &&& (15 : Int32)) - ((u2 &&& (15 : Int32)) / (9 : Int32)) * (9 : Int32))), .unset] []))
  refine own_st (fun _ k => XS.aload X114.here hx rfl (hb hby at_99) rfl rfl k) ?_
  show own_Go _ _ _ _ (T114.setTop (mkF m 101 #[.val (.int u0), .val (.long u1), .second, .val (.int u2), .val (.ref b98), .val (.int ((u2 &&& (15 : Int32)) - ((u2 &&& (15 : Int32)) / (9 : Int32)) * (9 : Int32))), .unset] [(.ref b98)]))
  refine own_st (fun _ k => XS.iload X114.here hx rfl (hb hby at_101) rfl k) ?_
  show own_Go _ _ _ _ (T114.setTop (mkF m 103 #[.val (.int u0), .val (.long u1), .second, .val (.int u2), .val (.ref b98), .val (.int ((u2 &&& (15 : Int32)) - ((u2 &&& (15 : Int32)) / (9 : Int32)) * (9 : Int32))), .unset] [(.int ((u2 &&& (15 : Int32)) - ((u2 &&& (15 : Int32)) / (9 : Int32)) * (9 : Int32))), (.ref b98)]))
  refine own_st (fun _ k => XS.iconst X114.here hx rfl (hb hby at_103) k) ?_
  show own_Go _ _ _ _ (T114.setTop (mkF m 104 #[.val (.int u0), .val (.long u1), .second, .val (.int u2), .val (.ref b98), .val (.int ((u2 &&& (15 : Int32)) - ((u2 &&& (15 : Int32)) / (9 : Int32)) * (9 : Int32))), .unset] [(.int (3 : Int32)), (.int ((u2 &&& (15 : Int32)) - ((u2 &&& (15 : Int32)) / (9 : Int32)) * (9 : Int32))), (.ref b98)]))
  obtain ⟨_, _, ⟨T115, L115, k115, n115⟩, -, X115, ⟨Lc115, hQ115, l115, y115, z115⟩, st115⟩ := Jvm.LawKit.callS X114 hx (y := (⟨"HttpHeadEndPinLaw", "blankLineEndsAt", "([BII)Z"⟩ : MethodName)) hown (mvT hZ (hw _ (List.mem_of_getElem? (i := 5) rfl))) (mvT hZ (hw _ (List.mem_of_getElem? (i := 6) rfl))) (mvT hZ (hw _ (List.mem_of_getElem? (i := 3) rfl))) (mvT hZ (hw _ (List.mem_of_getElem? (i := 7) rfl))) (by decide) (backOf (W := 0) (rm2_3 l Z a0 hw [] b98 k98 ((u2 &&& (15 : Int32)) - ((u2 &&& (15 : Int32)) / (9 : Int32)) * (9 : Int32)) (nar .byte r99) (nar .byte r101) (nar .byte r103) (nar .byte r105) (nar .byte r107) (nar .byte r109) (nar .byte r111) (nar .byte r113) h114 n0 Z114 V114') hZ (hw _ (List.mem_of_getElem? (i := 7) rfl)) (hw _ (List.mem_of_getElem? (i := 3) rfl)) (by decide) (by decide)) (g := (mkF m 104 #[.val (.int u0), .val (.long u1), .second, .val (.int u2), .val (.ref b98), .val (.int ((u2 &&& (15 : Int32)) - ((u2 &&& (15 : Int32)) / (9 : Int32)) * (9 : Int32))), .unset] [(.int (3 : Int32)), (.int ((u2 &&& (15 : Int32)) - ((u2 &&& (15 : Int32)) / (9 : Int32)) * (9 : Int32))), (.ref b98)])) rfl (by rw [hml]; rfl) (argsL := [(.ref b98), (.int ((u2 &&& (15 : Int32)) - ((u2 &&& (15 : Int32)) / (9 : Int32)) * (9 : Int32))), (.int (3 : Int32))]) (rest := []) (lenOf own_pd1 rfl) rfl (by show 2 * 0 + _ ≤ _; exact Nat.le_of_eq rfl) (hb hby at_104) (fun _ _ => ⟨rfl, e114, (by decide : 1 + 0 ≤ _), (by decide : 8 + 0 ≤ _)⟩)
  dsimp only [Pt.U, Pt.locs, Pt.cells, Pt.slots] at X115 l115 y115 z115 st115 hQ115
  rw [l115, y115, z115] at X115
  obtain ⟨rfl, Nq115, eq115⟩ := hQ115
  have N115 := Fr.app N114 Nq115
  refine own_st st115 ?_
  show own_Go _ _ _ _ (T115.setTop (mkF m 107 #[.val (.int u0), .val (.long u1), .second, .val (.int u2), .val (.ref b98), .val (.int ((u2 &&& (15 : Int32)) - ((u2 &&& (15 : Int32)) / (9 : Int32)) * (9 : Int32))), .unset] [(.int (own_bl ((u2 &&& (15 : Int32)) - ((u2 &&& (15 : Int32)) / (9 : Int32)) * (9 : Int32)) (3 : Int32) (nar .byte r99) (nar .byte r101) (nar .byte r103) (nar .byte r105)))]))
  by_cases hc116 : (own_bl ((u2 &&& (15 : Int32)) - ((u2 &&& (15 : Int32)) / (9 : Int32)) * (9 : Int32)) (3 : Int32) (nar .byte r99) (nar .byte r101) (nar .byte r103) (nar .byte r105)) = (0 : Int32)
  · skip
    refine own_st (fun _ k => XS.ifYes X115.here hx rfl (pc0 := 107) (pc' := 116) rfl (hb hby at_107) rfl ((if0 _ _).trans (teq hc116).1) (by decide) (by decide) k) ?_
    show own_Go _ _ _ _ (T115.setTop (mkF m 116 #[.val (.int u0), .val (.long u1), .second, .val (.int u2), .val (.ref b98), .val (.int ((u2 &&& (15 : Int32)) - ((u2 &&& (15 : Int32)) / (9 : Int32)) * (9 : Int32))), .unset] []))
    refine own_st (fun _ k => XS.aload X115.here hx rfl (hb hby at_116) rfl rfl k) ?_
    show own_Go _ _ _ _ (T115.setTop (mkF m 118 #[.val (.int u0), .val (.long u1), .second, .val (.int u2), .val (.ref b98), .val (.int ((u2 &&& (15 : Int32)) - ((u2 &&& (15 : Int32)) / (9 : Int32)) * (9 : Int32))), .unset] [(.ref b98)]))
    refine own_st (fun _ k => XS.iload X115.here hx rfl (hb hby at_118) rfl k) ?_
    show own_Go _ _ _ _ (T115.setTop (mkF m 120 #[.val (.int u0), .val (.long u1), .second, .val (.int u2), .val (.ref b98), .val (.int ((u2 &&& (15 : Int32)) - ((u2 &&& (15 : Int32)) / (9 : Int32)) * (9 : Int32))), .unset] [(.int ((u2 &&& (15 : Int32)) - ((u2 &&& (15 : Int32)) / (9 : Int32)) * (9 : Int32))), (.ref b98)]))
    refine own_st (fun _ k => XS.iconst X115.here hx rfl (hb hby at_120) k) ?_
    show own_Go _ _ _ _ (T115.setTop (mkF m 121 #[.val (.int u0), .val (.long u1), .second, .val (.int u2), .val (.ref b98), .val (.int ((u2 &&& (15 : Int32)) - ((u2 &&& (15 : Int32)) / (9 : Int32)) * (9 : Int32))), .unset] [(.int (4 : Int32)), (.int ((u2 &&& (15 : Int32)) - ((u2 &&& (15 : Int32)) / (9 : Int32)) * (9 : Int32))), (.ref b98)]))
    obtain ⟨_, _, ⟨T117, L117, k117, n117⟩, -, X117, ⟨Lc117, hQ117, l117, y117, z117⟩, st117⟩ := Jvm.LawKit.callS X115 hx (y := (⟨"HttpHeadEndPinLaw", "blankLineEndsAt", "([BII)Z"⟩ : MethodName)) hown (mvT hZ (hw _ (List.mem_of_getElem? (i := 5) rfl))) (mvT hZ (hw _ (List.mem_of_getElem? (i := 6) rfl))) (mvT hZ (hw _ (List.mem_of_getElem? (i := 3) rfl))) (mvT hZ (hw _ (List.mem_of_getElem? (i := 7) rfl))) (by decide) (backOf (W := 0) (rm2_4 l Z a0 hw [] b98 k98 ((u2 &&& (15 : Int32)) - ((u2 &&& (15 : Int32)) / (9 : Int32)) * (9 : Int32)) (nar .byte r99) (nar .byte r101) (nar .byte r103) (nar .byte r105) (nar .byte r107) (nar .byte r109) (nar .byte r111) (nar .byte r113) h114 n0 Z114 V114') hZ (hw _ (List.mem_of_getElem? (i := 7) rfl)) (hw _ (List.mem_of_getElem? (i := 3) rfl)) (by decide) (by decide)) (g := (mkF m 121 #[.val (.int u0), .val (.long u1), .second, .val (.int u2), .val (.ref b98), .val (.int ((u2 &&& (15 : Int32)) - ((u2 &&& (15 : Int32)) / (9 : Int32)) * (9 : Int32))), .unset] [(.int (4 : Int32)), (.int ((u2 &&& (15 : Int32)) - ((u2 &&& (15 : Int32)) / (9 : Int32)) * (9 : Int32))), (.ref b98)])) rfl (by rw [hml]; rfl) (argsL := [(.ref b98), (.int ((u2 &&& (15 : Int32)) - ((u2 &&& (15 : Int32)) / (9 : Int32)) * (9 : Int32))), (.int (4 : Int32))]) (rest := []) (lenOf own_pd1 rfl) rfl (by show 2 * 0 + _ ≤ _; exact Nat.le_of_eq rfl) (hb hby at_121) (fun _ _ => ⟨rfl, eq115, (by decide : 1 + 0 ≤ _), (by decide : 8 + 0 ≤ _)⟩)
    dsimp only [Pt.U, Pt.locs, Pt.cells, Pt.slots] at X117 l117 y117 z117 st117 hQ117
    rw [l117, y117, z117] at X117
    obtain ⟨rfl, Nq117, eq117⟩ := hQ117
    have N117 := Fr.app N115 Nq117
    refine own_st st117 ?_
    show own_Go _ _ _ _ (T117.setTop (mkF m 124 #[.val (.int u0), .val (.long u1), .second, .val (.int u2), .val (.ref b98), .val (.int ((u2 &&& (15 : Int32)) - ((u2 &&& (15 : Int32)) / (9 : Int32)) * (9 : Int32))), .unset] [(.int (own_bl ((u2 &&& (15 : Int32)) - ((u2 &&& (15 : Int32)) / (9 : Int32)) * (9 : Int32)) (4 : Int32) (nar .byte r101) (nar .byte r103) (nar .byte r105) (nar .byte r107)))]))
    by_cases hc118 : (own_bl ((u2 &&& (15 : Int32)) - ((u2 &&& (15 : Int32)) / (9 : Int32)) * (9 : Int32)) (4 : Int32) (nar .byte r101) (nar .byte r103) (nar .byte r105) (nar .byte r107)) = (0 : Int32)
    · skip
      refine own_st (fun _ k => XS.ifYes X117.here hx rfl (pc0 := 124) (pc' := 133) rfl (hb hby at_124) rfl ((if0 _ _).trans (teq hc118).1) (by decide) (by decide) k) ?_
      show own_Go _ _ _ _ (T117.setTop (mkF m 133 #[.val (.int u0), .val (.long u1), .second, .val (.int u2), .val (.ref b98), .val (.int ((u2 &&& (15 : Int32)) - ((u2 &&& (15 : Int32)) / (9 : Int32)) * (9 : Int32))), .unset] []))
      refine own_st (fun _ k => XS.aload X117.here hx rfl (hb hby at_133) rfl rfl k) ?_
      show own_Go _ _ _ _ (T117.setTop (mkF m 135 #[.val (.int u0), .val (.long u1), .second, .val (.int u2), .val (.ref b98), .val (.int ((u2 &&& (15 : Int32)) - ((u2 &&& (15 : Int32)) / (9 : Int32)) * (9 : Int32))), .unset] [(.ref b98)]))
      refine own_st (fun _ k => XS.iload X117.here hx rfl (hb hby at_135) rfl k) ?_
      show own_Go _ _ _ _ (T117.setTop (mkF m 137 #[.val (.int u0), .val (.long u1), .second, .val (.int u2), .val (.ref b98), .val (.int ((u2 &&& (15 : Int32)) - ((u2 &&& (15 : Int32)) / (9 : Int32)) * (9 : Int32))), .unset] [(.int ((u2 &&& (15 : Int32)) - ((u2 &&& (15 : Int32)) / (9 : Int32)) * (9 : Int32))), (.ref b98)]))
      refine own_st (fun _ k => XS.iconst X117.here hx rfl (hb hby at_137) k) ?_
      show own_Go _ _ _ _ (T117.setTop (mkF m 138 #[.val (.int u0), .val (.long u1), .second, .val (.int u2), .val (.ref b98), .val (.int ((u2 &&& (15 : Int32)) - ((u2 &&& (15 : Int32)) / (9 : Int32)) * (9 : Int32))), .unset] [(.int (5 : Int32)), (.int ((u2 &&& (15 : Int32)) - ((u2 &&& (15 : Int32)) / (9 : Int32)) * (9 : Int32))), (.ref b98)]))
      obtain ⟨_, _, ⟨T119, L119, k119, n119⟩, -, X119, ⟨Lc119, hQ119, l119, y119, z119⟩, st119⟩ := Jvm.LawKit.callS X117 hx (y := (⟨"HttpHeadEndPinLaw", "blankLineEndsAt", "([BII)Z"⟩ : MethodName)) hown (mvT hZ (hw _ (List.mem_of_getElem? (i := 5) rfl))) (mvT hZ (hw _ (List.mem_of_getElem? (i := 6) rfl))) (mvT hZ (hw _ (List.mem_of_getElem? (i := 3) rfl))) (mvT hZ (hw _ (List.mem_of_getElem? (i := 7) rfl))) (by decide) (backOf (W := 0) (rm2_5 l Z a0 hw [] b98 k98 ((u2 &&& (15 : Int32)) - ((u2 &&& (15 : Int32)) / (9 : Int32)) * (9 : Int32)) (nar .byte r99) (nar .byte r101) (nar .byte r103) (nar .byte r105) (nar .byte r107) (nar .byte r109) (nar .byte r111) (nar .byte r113) h114 n0 Z114 V114') hZ (hw _ (List.mem_of_getElem? (i := 7) rfl)) (hw _ (List.mem_of_getElem? (i := 3) rfl)) (by decide) (by decide)) (g := (mkF m 138 #[.val (.int u0), .val (.long u1), .second, .val (.int u2), .val (.ref b98), .val (.int ((u2 &&& (15 : Int32)) - ((u2 &&& (15 : Int32)) / (9 : Int32)) * (9 : Int32))), .unset] [(.int (5 : Int32)), (.int ((u2 &&& (15 : Int32)) - ((u2 &&& (15 : Int32)) / (9 : Int32)) * (9 : Int32))), (.ref b98)])) rfl (by rw [hml]; rfl) (argsL := [(.ref b98), (.int ((u2 &&& (15 : Int32)) - ((u2 &&& (15 : Int32)) / (9 : Int32)) * (9 : Int32))), (.int (5 : Int32))]) (rest := []) (lenOf own_pd1 rfl) rfl (by show 2 * 0 + _ ≤ _; exact Nat.le_of_eq rfl) (hb hby at_138) (fun _ _ => ⟨rfl, eq117, (by decide : 1 + 0 ≤ _), (by decide : 8 + 0 ≤ _)⟩)
      dsimp only [Pt.U, Pt.locs, Pt.cells, Pt.slots] at X119 l119 y119 z119 st119 hQ119
      rw [l119, y119, z119] at X119
      obtain ⟨rfl, Nq119, eq119⟩ := hQ119
      have N119 := Fr.app N117 Nq119
      refine own_st st119 ?_
      show own_Go _ _ _ _ (T119.setTop (mkF m 141 #[.val (.int u0), .val (.long u1), .second, .val (.int u2), .val (.ref b98), .val (.int ((u2 &&& (15 : Int32)) - ((u2 &&& (15 : Int32)) / (9 : Int32)) * (9 : Int32))), .unset] [(.int (own_bl ((u2 &&& (15 : Int32)) - ((u2 &&& (15 : Int32)) / (9 : Int32)) * (9 : Int32)) (5 : Int32) (nar .byte r103) (nar .byte r105) (nar .byte r107) (nar .byte r109)))]))
      by_cases hc120 : (own_bl ((u2 &&& (15 : Int32)) - ((u2 &&& (15 : Int32)) / (9 : Int32)) * (9 : Int32)) (5 : Int32) (nar .byte r103) (nar .byte r105) (nar .byte r107) (nar .byte r109)) = (0 : Int32)
      · skip
        refine own_st (fun _ k => XS.ifYes X119.here hx rfl (pc0 := 141) (pc' := 151) rfl (hb hby at_141) rfl ((if0 _ _).trans (teq hc120).1) (by decide) (by decide) k) ?_
        show own_Go _ _ _ _ (T119.setTop (mkF m 151 #[.val (.int u0), .val (.long u1), .second, .val (.int u2), .val (.ref b98), .val (.int ((u2 &&& (15 : Int32)) - ((u2 &&& (15 : Int32)) / (9 : Int32)) * (9 : Int32))), .unset] []))
        refine own_st (fun _ k => XS.aload X119.here hx rfl (hb hby at_151) rfl rfl k) ?_
        show own_Go _ _ _ _ (T119.setTop (mkF m 153 #[.val (.int u0), .val (.long u1), .second, .val (.int u2), .val (.ref b98), .val (.int ((u2 &&& (15 : Int32)) - ((u2 &&& (15 : Int32)) / (9 : Int32)) * (9 : Int32))), .unset] [(.ref b98)]))
        refine own_st (fun _ k => XS.iload X119.here hx rfl (hb hby at_153) rfl k) ?_
        show own_Go _ _ _ _ (T119.setTop (mkF m 155 #[.val (.int u0), .val (.long u1), .second, .val (.int u2), .val (.ref b98), .val (.int ((u2 &&& (15 : Int32)) - ((u2 &&& (15 : Int32)) / (9 : Int32)) * (9 : Int32))), .unset] [(.int ((u2 &&& (15 : Int32)) - ((u2 &&& (15 : Int32)) / (9 : Int32)) * (9 : Int32))), (.ref b98)]))
        refine own_st (fun _ k => XS.bipush X119.here hx rfl (hb hby at_155) k) ?_
        show own_Go _ _ _ _ (T119.setTop (mkF m 157 #[.val (.int u0), .val (.long u1), .second, .val (.int u2), .val (.ref b98), .val (.int ((u2 &&& (15 : Int32)) - ((u2 &&& (15 : Int32)) / (9 : Int32)) * (9 : Int32))), .unset] [(.int (6 : Int32)), (.int ((u2 &&& (15 : Int32)) - ((u2 &&& (15 : Int32)) / (9 : Int32)) * (9 : Int32))), (.ref b98)]))
        obtain ⟨_, _, ⟨T121, L121, k121, n121⟩, -, X121, ⟨Lc121, hQ121, l121, y121, z121⟩, st121⟩ := Jvm.LawKit.callS X119 hx (y := (⟨"HttpHeadEndPinLaw", "blankLineEndsAt", "([BII)Z"⟩ : MethodName)) hown (mvT hZ (hw _ (List.mem_of_getElem? (i := 5) rfl))) (mvT hZ (hw _ (List.mem_of_getElem? (i := 6) rfl))) (mvT hZ (hw _ (List.mem_of_getElem? (i := 3) rfl))) (mvT hZ (hw _ (List.mem_of_getElem? (i := 7) rfl))) (by decide) (backOf (W := 0) (rm2_6 l Z a0 hw [] b98 k98 ((u2 &&& (15 : Int32)) - ((u2 &&& (15 : Int32)) / (9 : Int32)) * (9 : Int32)) (nar .byte r99) (nar .byte r101) (nar .byte r103) (nar .byte r105) (nar .byte r107) (nar .byte r109) (nar .byte r111) (nar .byte r113) h114 n0 Z114 V114') hZ (hw _ (List.mem_of_getElem? (i := 7) rfl)) (hw _ (List.mem_of_getElem? (i := 3) rfl)) (by decide) (by decide)) (g := (mkF m 157 #[.val (.int u0), .val (.long u1), .second, .val (.int u2), .val (.ref b98), .val (.int ((u2 &&& (15 : Int32)) - ((u2 &&& (15 : Int32)) / (9 : Int32)) * (9 : Int32))), .unset] [(.int (6 : Int32)), (.int ((u2 &&& (15 : Int32)) - ((u2 &&& (15 : Int32)) / (9 : Int32)) * (9 : Int32))), (.ref b98)])) rfl (by rw [hml]; rfl) (argsL := [(.ref b98), (.int ((u2 &&& (15 : Int32)) - ((u2 &&& (15 : Int32)) / (9 : Int32)) * (9 : Int32))), (.int (6 : Int32))]) (rest := []) (lenOf own_pd1 rfl) rfl (by show 2 * 0 + _ ≤ _; exact Nat.le_of_eq rfl) (hb hby at_157) (fun _ _ => ⟨rfl, eq119, (by decide : 1 + 0 ≤ _), (by decide : 8 + 0 ≤ _)⟩)
        dsimp only [Pt.U, Pt.locs, Pt.cells, Pt.slots] at X121 l121 y121 z121 st121 hQ121
        rw [l121, y121, z121] at X121
        obtain ⟨rfl, Nq121, eq121⟩ := hQ121
        have N121 := Fr.app N119 Nq121
        refine own_st st121 ?_
        show own_Go _ _ _ _ (T121.setTop (mkF m 160 #[.val (.int u0), .val (.long u1), .second, .val (.int u2), .val (.ref b98), .val (.int ((u2 &&& (15 : Int32)) - ((u2 &&& (15 : Int32)) / (9 : Int32)) * (9 : Int32))), .unset] [(.int (own_bl ((u2 &&& (15 : Int32)) - ((u2 &&& (15 : Int32)) / (9 : Int32)) * (9 : Int32)) (6 : Int32) (nar .byte r105) (nar .byte r107) (nar .byte r109) (nar .byte r111)))]))
        by_cases hc122 : (own_bl ((u2 &&& (15 : Int32)) - ((u2 &&& (15 : Int32)) / (9 : Int32)) * (9 : Int32)) (6 : Int32) (nar .byte r105) (nar .byte r107) (nar .byte r109) (nar .byte r111)) = (0 : Int32)
        · skip
          refine own_st (fun _ k => XS.ifYes X121.here hx rfl (pc0 := 160) (pc' := 170) rfl (hb hby at_160) rfl ((if0 _ _).trans (teq hc122).1) (by decide) (by decide) k) ?_
          show own_Go _ _ _ _ (T121.setTop (mkF m 170 #[.val (.int u0), .val (.long u1), .second, .val (.int u2), .val (.ref b98), .val (.int ((u2 &&& (15 : Int32)) - ((u2 &&& (15 : Int32)) / (9 : Int32)) * (9 : Int32))), .unset] []))
          refine own_st (fun _ k => XS.aload X121.here hx rfl (hb hby at_170) rfl rfl k) ?_
          show own_Go _ _ _ _ (T121.setTop (mkF m 172 #[.val (.int u0), .val (.long u1), .second, .val (.int u2), .val (.ref b98), .val (.int ((u2 &&& (15 : Int32)) - ((u2 &&& (15 : Int32)) / (9 : Int32)) * (9 : Int32))), .unset] [(.ref b98)]))
          refine own_st (fun _ k => XS.iload X121.here hx rfl (hb hby at_172) rfl k) ?_
          show own_Go _ _ _ _ (T121.setTop (mkF m 174 #[.val (.int u0), .val (.long u1), .second, .val (.int u2), .val (.ref b98), .val (.int ((u2 &&& (15 : Int32)) - ((u2 &&& (15 : Int32)) / (9 : Int32)) * (9 : Int32))), .unset] [(.int ((u2 &&& (15 : Int32)) - ((u2 &&& (15 : Int32)) / (9 : Int32)) * (9 : Int32))), (.ref b98)]))
          refine own_st (fun _ k => XS.bipush X121.here hx rfl (hb hby at_174) k) ?_
          show own_Go _ _ _ _ (T121.setTop (mkF m 176 #[.val (.int u0), .val (.long u1), .second, .val (.int u2), .val (.ref b98), .val (.int ((u2 &&& (15 : Int32)) - ((u2 &&& (15 : Int32)) / (9 : Int32)) * (9 : Int32))), .unset] [(.int (7 : Int32)), (.int ((u2 &&& (15 : Int32)) - ((u2 &&& (15 : Int32)) / (9 : Int32)) * (9 : Int32))), (.ref b98)]))
          obtain ⟨_, _, ⟨T123, L123, k123, n123⟩, -, X123, ⟨Lc123, hQ123, l123, y123, z123⟩, st123⟩ := Jvm.LawKit.callS X121 hx (y := (⟨"HttpHeadEndPinLaw", "blankLineEndsAt", "([BII)Z"⟩ : MethodName)) hown (mvT hZ (hw _ (List.mem_of_getElem? (i := 5) rfl))) (mvT hZ (hw _ (List.mem_of_getElem? (i := 6) rfl))) (mvT hZ (hw _ (List.mem_of_getElem? (i := 3) rfl))) (mvT hZ (hw _ (List.mem_of_getElem? (i := 7) rfl))) (by decide) (backOf (W := 0) (rm2_7 l Z a0 hw [] b98 k98 ((u2 &&& (15 : Int32)) - ((u2 &&& (15 : Int32)) / (9 : Int32)) * (9 : Int32)) (nar .byte r99) (nar .byte r101) (nar .byte r103) (nar .byte r105) (nar .byte r107) (nar .byte r109) (nar .byte r111) (nar .byte r113) h114 n0 Z114 V114') hZ (hw _ (List.mem_of_getElem? (i := 7) rfl)) (hw _ (List.mem_of_getElem? (i := 3) rfl)) (by decide) (by decide)) (g := (mkF m 176 #[.val (.int u0), .val (.long u1), .second, .val (.int u2), .val (.ref b98), .val (.int ((u2 &&& (15 : Int32)) - ((u2 &&& (15 : Int32)) / (9 : Int32)) * (9 : Int32))), .unset] [(.int (7 : Int32)), (.int ((u2 &&& (15 : Int32)) - ((u2 &&& (15 : Int32)) / (9 : Int32)) * (9 : Int32))), (.ref b98)])) rfl (by rw [hml]; rfl) (argsL := [(.ref b98), (.int ((u2 &&& (15 : Int32)) - ((u2 &&& (15 : Int32)) / (9 : Int32)) * (9 : Int32))), (.int (7 : Int32))]) (rest := []) (lenOf own_pd1 rfl) rfl (by show 2 * 0 + _ ≤ _; exact Nat.le_of_eq rfl) (hb hby at_176) (fun _ _ => ⟨rfl, eq121, (by decide : 1 + 0 ≤ _), (by decide : 8 + 0 ≤ _)⟩)
          dsimp only [Pt.U, Pt.locs, Pt.cells, Pt.slots] at X123 l123 y123 z123 st123 hQ123
          rw [l123, y123, z123] at X123
          obtain ⟨rfl, Nq123, eq123⟩ := hQ123
          have N123 := Fr.app N121 Nq123
          refine own_st st123 ?_
          show own_Go _ _ _ _ (T123.setTop (mkF m 179 #[.val (.int u0), .val (.long u1), .second, .val (.int u2), .val (.ref b98), .val (.int ((u2 &&& (15 : Int32)) - ((u2 &&& (15 : Int32)) / (9 : Int32)) * (9 : Int32))), .unset] [(.int (own_bl ((u2 &&& (15 : Int32)) - ((u2 &&& (15 : Int32)) / (9 : Int32)) * (9 : Int32)) (7 : Int32) (nar .byte r107) (nar .byte r109) (nar .byte r111) (nar .byte r113)))]))
          by_cases hc124 : (own_bl ((u2 &&& (15 : Int32)) - ((u2 &&& (15 : Int32)) / (9 : Int32)) * (9 : Int32)) (7 : Int32) (nar .byte r107) (nar .byte r109) (nar .byte r111) (nar .byte r113)) = (0 : Int32)
          · skip
            refine own_st (fun _ k => XS.ifYes X123.here hx rfl (pc0 := 179) (pc' := 189) rfl (hb hby at_179) rfl ((if0 _ _).trans (teq hc124).1) (by decide) (by decide) k) ?_
            show own_Go _ _ _ _ (T123.setTop (mkF m 189 #[.val (.int u0), .val (.long u1), .second, .val (.int u2), .val (.ref b98), .val (.int ((u2 &&& (15 : Int32)) - ((u2 &&& (15 : Int32)) / (9 : Int32)) * (9 : Int32))), .unset] []))
            refine own_st (fun _ k => XS.iconst X123.here hx rfl (hb hby at_189) k) ?_
            show own_Go _ _ _ _ (T123.setTop (mkF m 190 #[.val (.int u0), .val (.long u1), .second, .val (.int u2), .val (.ref b98), .val (.int ((u2 &&& (15 : Int32)) - ((u2 &&& (15 : Int32)) / (9 : Int32)) * (9 : Int32))), .unset] [(.int (0 : Int32))]))
            refine own_st (fun _ k => XS.istore X123.here hx rfl (hb hby at_190) rfl (l' := #[.val (.int u0), .val (.long u1), .second, .val (.int u2), .val (.ref b98), .val (.int ((u2 &&& (15 : Int32)) - ((u2 &&& (15 : Int32)) / (9 : Int32)) * (9 : Int32))), .val (.int (0 : Int32))]) rfl k) ?_
            show own_Go _ _ _ _ (T123.setTop (mkF m 192 #[.val (.int u0), .val (.long u1), .second, .val (.int u2), .val (.ref b98), .val (.int ((u2 &&& (15 : Int32)) - ((u2 &&& (15 : Int32)) / (9 : Int32)) * (9 : Int32))), .val (.int (0 : Int32))] []))
            refine own_st (fun _ k => XS.aload X123.here hx rfl (hb hby at_192) rfl rfl k) ?_
            show own_Go _ _ _ _ (T123.setTop (mkF m 194 #[.val (.int u0), .val (.long u1), .second, .val (.int u2), .val (.ref b98), .val (.int ((u2 &&& (15 : Int32)) - ((u2 &&& (15 : Int32)) / (9 : Int32)) * (9 : Int32))), .val (.int (0 : Int32))] [(.ref b98)]))
            refine own_st (fun _ k => XS.iload X123.here hx rfl (hb hby at_194) rfl k) ?_
            show own_Go _ _ _ _ (T123.setTop (mkF m 196 #[.val (.int u0), .val (.long u1), .second, .val (.int u2), .val (.ref b98), .val (.int ((u2 &&& (15 : Int32)) - ((u2 &&& (15 : Int32)) / (9 : Int32)) * (9 : Int32))), .val (.int (0 : Int32))] [(.int ((u2 &&& (15 : Int32)) - ((u2 &&& (15 : Int32)) / (9 : Int32)) * (9 : Int32))), (.ref b98)]))
            obtain ⟨_, _, ⟨T125, L125, k125, n125⟩, -, X125, ⟨Lc125, hQ125, l125, y125, z125⟩, st125⟩ := Jvm.LawKit.callS X123 hx (y := (⟨"HttpHead", "end", "([BI)I"⟩ : MethodName)) hown (mvT hZ (hw _ (List.mem_of_getElem? (i := 8) rfl))) (mvT hZ (hw _ (List.mem_of_getElem? (i := 9) rfl))) (mvT hZ (hw _ (List.mem_of_getElem? (i := 10) rfl))) (mvT hZ (hw _ (List.mem_of_getElem? (i := 11) rfl))) (by decide) (backOf (W := 0) (rm3 l Z a0 hw [] b98 k98 ((u2 &&& (15 : Int32)) - ((u2 &&& (15 : Int32)) / (9 : Int32)) * (9 : Int32)) (nar .byte r99) (nar .byte r101) (nar .byte r103) (nar .byte r105) (nar .byte r107) (nar .byte r109) (nar .byte r111) (nar .byte r113) h114 n0 Z114 V114' (own_le8 u2)) hZ (hw _ (List.mem_of_getElem? (i := 11) rfl)) (hw _ (List.mem_of_getElem? (i := 10) rfl)) (by decide) (by decide)) (g := (mkF m 196 #[.val (.int u0), .val (.long u1), .second, .val (.int u2), .val (.ref b98), .val (.int ((u2 &&& (15 : Int32)) - ((u2 &&& (15 : Int32)) / (9 : Int32)) * (9 : Int32))), .val (.int (0 : Int32))] [(.int ((u2 &&& (15 : Int32)) - ((u2 &&& (15 : Int32)) / (9 : Int32)) * (9 : Int32))), (.ref b98)])) rfl (by rw [hml]; rfl) (argsL := [(.ref b98), (.int ((u2 &&& (15 : Int32)) - ((u2 &&& (15 : Int32)) / (9 : Int32)) * (9 : Int32)))]) (rest := []) (lenOf own_pd2 rfl) rfl (by show 2 * 0 + _ ≤ _; exact Nat.le_of_eq rfl) (hb hby at_196) (fun _ _ => ⟨rfl, eq123, (by decide : 1 + 0 ≤ _), (by decide : 8 + 0 ≤ _)⟩)
            dsimp only [Pt.U, Pt.locs, Pt.cells, Pt.slots] at X125 l125 y125 z125 st125 hQ125
            rw [l125, y125, z125] at X125
            obtain ⟨rfl, Nq125, eq125⟩ := hQ125
            have N125 := Fr.app N123 Nq125
            refine own_st st125 ?_
            show own_Go _ _ _ _ (T125.setTop (mkF m 199 #[.val (.int u0), .val (.long u1), .second, .val (.int u2), .val (.ref b98), .val (.int ((u2 &&& (15 : Int32)) - ((u2 &&& (15 : Int32)) / (9 : Int32)) * (9 : Int32))), .val (.int (0 : Int32))] [(.int (own_end ((u2 &&& (15 : Int32)) - ((u2 &&& (15 : Int32)) / (9 : Int32)) * (9 : Int32)) (nar .byte r99) (nar .byte r101) (nar .byte r103) (nar .byte r105) (nar .byte r107) (nar .byte r109) (nar .byte r111) (nar .byte r113)))]))
            refine own_st (fun _ k => XS.iload X125.here hx rfl (hb hby at_199) rfl k) ?_
            show own_Go _ _ _ _ (T125.setTop (mkF m 201 #[.val (.int u0), .val (.long u1), .second, .val (.int u2), .val (.ref b98), .val (.int ((u2 &&& (15 : Int32)) - ((u2 &&& (15 : Int32)) / (9 : Int32)) * (9 : Int32))), .val (.int (0 : Int32))] [(.int (0 : Int32)), (.int (own_end ((u2 &&& (15 : Int32)) - ((u2 &&& (15 : Int32)) / (9 : Int32)) * (9 : Int32)) (nar .byte r99) (nar .byte r101) (nar .byte r103) (nar .byte r105) (nar .byte r107) (nar .byte r109) (nar .byte r111) (nar .byte r113)))]))
            refine own_st (fun _ k => XS.icmpNo X125.here hx rfl (hb hby at_201) rfl (teq (own_fin0 _ _ _ _ _ _ _ _ _ hc116 hc118 hc120 hc122 hc124)).2 k) ?_
            show own_Go _ _ _ _ (T125.setTop (mkF m 204 #[.val (.int u0), .val (.long u1), .second, .val (.int u2), .val (.ref b98), .val (.int ((u2 &&& (15 : Int32)) - ((u2 &&& (15 : Int32)) / (9 : Int32)) * (9 : Int32))), .val (.int (0 : Int32))] []))
            refine own_st (fun _ k => XS.iconst X125.here hx rfl (hb hby at_204) k) ?_
            show own_Go _ _ _ _ (T125.setTop (mkF m 205 #[.val (.int u0), .val (.long u1), .second, .val (.int u2), .val (.ref b98), .val (.int ((u2 &&& (15 : Int32)) - ((u2 &&& (15 : Int32)) / (9 : Int32)) * (9 : Int32))), .val (.int (0 : Int32))] [(.int (1 : Int32))]))
            refine own_st (fun _ k => XS.goto X125.here hx rfl (pc0 := 205) (pc' := 209) rfl (hb hby at_205) (by decide) (by decide) k) ?_
            show own_Go _ _ _ _ (T125.setTop (mkF m 209 #[.val (.int u0), .val (.long u1), .second, .val (.int u2), .val (.ref b98), .val (.int ((u2 &&& (15 : Int32)) - ((u2 &&& (15 : Int32)) / (9 : Int32)) * (9 : Int32))), .val (.int (0 : Int32))] [(.int (1 : Int32))]))
            obtain ⟨fs, hr, hrun, hended, hW, hsame⟩ := X125.leave (v := some (.int (1 : Int32))) (fun h => by rw [Bd.returns] at h; cases h)
            refine own_out (retN X125 hx (t := .boolean) Bd.returns (by simp) (hb hby at_209) hr) ⟨hrun, hended, _, _, rfl, ?_, ⟨_, rfl⟩, hW, hsame.mono (by decide) (by decide)⟩
            show Q0 Z u0 u1 u2 h0 n0 _ T125.heap _
            exact ⟨rfl, N125⟩
          · skip
            refine own_st (fun _ k => XS.ifNo X123.here hx rfl (hb hby at_179) rfl ((if0 _ _).trans (feq hc124).1) k) ?_
            show own_Go _ _ _ _ (T123.setTop (mkF m 182 #[.val (.int u0), .val (.long u1), .second, .val (.int u2), .val (.ref b98), .val (.int ((u2 &&& (15 : Int32)) - ((u2 &&& (15 : Int32)) / (9 : Int32)) * (9 : Int32))), .unset] []))
            refine own_st (fun _ k => XS.bipush X123.here hx rfl (hb hby at_182) k) ?_
            show own_Go _ _ _ _ (T123.setTop (mkF m 184 #[.val (.int u0), .val (.long u1), .second, .val (.int u2), .val (.ref b98), .val (.int ((u2 &&& (15 : Int32)) - ((u2 &&& (15 : Int32)) / (9 : Int32)) * (9 : Int32))), .unset] [(.int (8 : Int32))]))
            refine own_st (fun _ k => XS.istore X123.here hx rfl (hb hby at_184) rfl (l' := #[.val (.int u0), .val (.long u1), .second, .val (.int u2), .val (.ref b98), .val (.int ((u2 &&& (15 : Int32)) - ((u2 &&& (15 : Int32)) / (9 : Int32)) * (9 : Int32))), .val (.int (8 : Int32))]) rfl k) ?_
            show own_Go _ _ _ _ (T123.setTop (mkF m 186 #[.val (.int u0), .val (.long u1), .second, .val (.int u2), .val (.ref b98), .val (.int ((u2 &&& (15 : Int32)) - ((u2 &&& (15 : Int32)) / (9 : Int32)) * (9 : Int32))), .val (.int (8 : Int32))] []))
            refine own_st (fun _ k => XS.goto X123.here hx rfl (pc0 := 186) (pc' := 192) rfl (hb hby at_186) (by decide) (by decide) k) ?_
            show own_Go _ _ _ _ (T123.setTop (mkF m 192 #[.val (.int u0), .val (.long u1), .second, .val (.int u2), .val (.ref b98), .val (.int ((u2 &&& (15 : Int32)) - ((u2 &&& (15 : Int32)) / (9 : Int32)) * (9 : Int32))), .val (.int (8 : Int32))] []))
            refine own_st (fun _ k => XS.aload X123.here hx rfl (hb hby at_192) rfl rfl k) ?_
            show own_Go _ _ _ _ (T123.setTop (mkF m 194 #[.val (.int u0), .val (.long u1), .second, .val (.int u2), .val (.ref b98), .val (.int ((u2 &&& (15 : Int32)) - ((u2 &&& (15 : Int32)) / (9 : Int32)) * (9 : Int32))), .val (.int (8 : Int32))] [(.ref b98)]))
            refine own_st (fun _ k => XS.iload X123.here hx rfl (hb hby at_194) rfl k) ?_
            show own_Go _ _ _ _ (T123.setTop (mkF m 196 #[.val (.int u0), .val (.long u1), .second, .val (.int u2), .val (.ref b98), .val (.int ((u2 &&& (15 : Int32)) - ((u2 &&& (15 : Int32)) / (9 : Int32)) * (9 : Int32))), .val (.int (8 : Int32))] [(.int ((u2 &&& (15 : Int32)) - ((u2 &&& (15 : Int32)) / (9 : Int32)) * (9 : Int32))), (.ref b98)]))
            obtain ⟨_, _, ⟨T126, L126, k126, n126⟩, -, X126, ⟨Lc126, hQ126, l126, y126, z126⟩, st126⟩ := Jvm.LawKit.callS X123 hx (y := (⟨"HttpHead", "end", "([BI)I"⟩ : MethodName)) hown (mvT hZ (hw _ (List.mem_of_getElem? (i := 8) rfl))) (mvT hZ (hw _ (List.mem_of_getElem? (i := 9) rfl))) (mvT hZ (hw _ (List.mem_of_getElem? (i := 10) rfl))) (mvT hZ (hw _ (List.mem_of_getElem? (i := 11) rfl))) (by decide) (backOf (W := 0) (rm3 l Z a0 hw [] b98 k98 ((u2 &&& (15 : Int32)) - ((u2 &&& (15 : Int32)) / (9 : Int32)) * (9 : Int32)) (nar .byte r99) (nar .byte r101) (nar .byte r103) (nar .byte r105) (nar .byte r107) (nar .byte r109) (nar .byte r111) (nar .byte r113) h114 n0 Z114 V114' (own_le8 u2)) hZ (hw _ (List.mem_of_getElem? (i := 11) rfl)) (hw _ (List.mem_of_getElem? (i := 10) rfl)) (by decide) (by decide)) (g := (mkF m 196 #[.val (.int u0), .val (.long u1), .second, .val (.int u2), .val (.ref b98), .val (.int ((u2 &&& (15 : Int32)) - ((u2 &&& (15 : Int32)) / (9 : Int32)) * (9 : Int32))), .val (.int (8 : Int32))] [(.int ((u2 &&& (15 : Int32)) - ((u2 &&& (15 : Int32)) / (9 : Int32)) * (9 : Int32))), (.ref b98)])) rfl (by rw [hml]; rfl) (argsL := [(.ref b98), (.int ((u2 &&& (15 : Int32)) - ((u2 &&& (15 : Int32)) / (9 : Int32)) * (9 : Int32)))]) (rest := []) (lenOf own_pd2 rfl) rfl (by show 2 * 0 + _ ≤ _; exact Nat.le_of_eq rfl) (hb hby at_196) (fun _ _ => ⟨rfl, eq123, (by decide : 1 + 0 ≤ _), (by decide : 8 + 0 ≤ _)⟩)
            dsimp only [Pt.U, Pt.locs, Pt.cells, Pt.slots] at X126 l126 y126 z126 st126 hQ126
            rw [l126, y126, z126] at X126
            obtain ⟨rfl, Nq126, eq126⟩ := hQ126
            have N126 := Fr.app N123 Nq126
            refine own_st st126 ?_
            show own_Go _ _ _ _ (T126.setTop (mkF m 199 #[.val (.int u0), .val (.long u1), .second, .val (.int u2), .val (.ref b98), .val (.int ((u2 &&& (15 : Int32)) - ((u2 &&& (15 : Int32)) / (9 : Int32)) * (9 : Int32))), .val (.int (8 : Int32))] [(.int (own_end ((u2 &&& (15 : Int32)) - ((u2 &&& (15 : Int32)) / (9 : Int32)) * (9 : Int32)) (nar .byte r99) (nar .byte r101) (nar .byte r103) (nar .byte r105) (nar .byte r107) (nar .byte r109) (nar .byte r111) (nar .byte r113)))]))
            refine own_st (fun _ k => XS.iload X126.here hx rfl (hb hby at_199) rfl k) ?_
            show own_Go _ _ _ _ (T126.setTop (mkF m 201 #[.val (.int u0), .val (.long u1), .second, .val (.int u2), .val (.ref b98), .val (.int ((u2 &&& (15 : Int32)) - ((u2 &&& (15 : Int32)) / (9 : Int32)) * (9 : Int32))), .val (.int (8 : Int32))] [(.int (8 : Int32)), (.int (own_end ((u2 &&& (15 : Int32)) - ((u2 &&& (15 : Int32)) / (9 : Int32)) * (9 : Int32)) (nar .byte r99) (nar .byte r101) (nar .byte r103) (nar .byte r105) (nar .byte r107) (nar .byte r109) (nar .byte r111) (nar .byte r113)))]))
            refine own_st (fun _ k => XS.icmpNo X126.here hx rfl (hb hby at_201) rfl (teq (own_fin8 _ _ _ _ _ _ _ _ _ hc116 hc118 hc120 hc122 hc124)).2 k) ?_
            show own_Go _ _ _ _ (T126.setTop (mkF m 204 #[.val (.int u0), .val (.long u1), .second, .val (.int u2), .val (.ref b98), .val (.int ((u2 &&& (15 : Int32)) - ((u2 &&& (15 : Int32)) / (9 : Int32)) * (9 : Int32))), .val (.int (8 : Int32))] []))
            refine own_st (fun _ k => XS.iconst X126.here hx rfl (hb hby at_204) k) ?_
            show own_Go _ _ _ _ (T126.setTop (mkF m 205 #[.val (.int u0), .val (.long u1), .second, .val (.int u2), .val (.ref b98), .val (.int ((u2 &&& (15 : Int32)) - ((u2 &&& (15 : Int32)) / (9 : Int32)) * (9 : Int32))), .val (.int (8 : Int32))] [(.int (1 : Int32))]))
            refine own_st (fun _ k => XS.goto X126.here hx rfl (pc0 := 205) (pc' := 209) rfl (hb hby at_205) (by decide) (by decide) k) ?_
            show own_Go _ _ _ _ (T126.setTop (mkF m 209 #[.val (.int u0), .val (.long u1), .second, .val (.int u2), .val (.ref b98), .val (.int ((u2 &&& (15 : Int32)) - ((u2 &&& (15 : Int32)) / (9 : Int32)) * (9 : Int32))), .val (.int (8 : Int32))] [(.int (1 : Int32))]))
            obtain ⟨fs, hr, hrun, hended, hW, hsame⟩ := X126.leave (v := some (.int (1 : Int32))) (fun h => by rw [Bd.returns] at h; cases h)
            refine own_out (retN X126 hx (t := .boolean) Bd.returns (by simp) (hb hby at_209) hr) ⟨hrun, hended, _, _, rfl, ?_, ⟨_, rfl⟩, hW, hsame.mono (by decide) (by decide)⟩
            show Q0 Z u0 u1 u2 h0 n0 _ T126.heap _
            exact ⟨rfl, N126⟩
        · skip
          refine own_st (fun _ k => XS.ifNo X121.here hx rfl (hb hby at_160) rfl ((if0 _ _).trans (feq hc122).1) k) ?_
          show own_Go _ _ _ _ (T121.setTop (mkF m 163 #[.val (.int u0), .val (.long u1), .second, .val (.int u2), .val (.ref b98), .val (.int ((u2 &&& (15 : Int32)) - ((u2 &&& (15 : Int32)) / (9 : Int32)) * (9 : Int32))), .unset] []))
          refine own_st (fun _ k => XS.bipush X121.here hx rfl (hb hby at_163) k) ?_
          show own_Go _ _ _ _ (T121.setTop (mkF m 165 #[.val (.int u0), .val (.long u1), .second, .val (.int u2), .val (.ref b98), .val (.int ((u2 &&& (15 : Int32)) - ((u2 &&& (15 : Int32)) / (9 : Int32)) * (9 : Int32))), .unset] [(.int (7 : Int32))]))
          refine own_st (fun _ k => XS.istore X121.here hx rfl (hb hby at_165) rfl (l' := #[.val (.int u0), .val (.long u1), .second, .val (.int u2), .val (.ref b98), .val (.int ((u2 &&& (15 : Int32)) - ((u2 &&& (15 : Int32)) / (9 : Int32)) * (9 : Int32))), .val (.int (7 : Int32))]) rfl k) ?_
          show own_Go _ _ _ _ (T121.setTop (mkF m 167 #[.val (.int u0), .val (.long u1), .second, .val (.int u2), .val (.ref b98), .val (.int ((u2 &&& (15 : Int32)) - ((u2 &&& (15 : Int32)) / (9 : Int32)) * (9 : Int32))), .val (.int (7 : Int32))] []))
          refine own_st (fun _ k => XS.goto X121.here hx rfl (pc0 := 167) (pc' := 192) rfl (hb hby at_167) (by decide) (by decide) k) ?_
          show own_Go _ _ _ _ (T121.setTop (mkF m 192 #[.val (.int u0), .val (.long u1), .second, .val (.int u2), .val (.ref b98), .val (.int ((u2 &&& (15 : Int32)) - ((u2 &&& (15 : Int32)) / (9 : Int32)) * (9 : Int32))), .val (.int (7 : Int32))] []))
          refine own_st (fun _ k => XS.aload X121.here hx rfl (hb hby at_192) rfl rfl k) ?_
          show own_Go _ _ _ _ (T121.setTop (mkF m 194 #[.val (.int u0), .val (.long u1), .second, .val (.int u2), .val (.ref b98), .val (.int ((u2 &&& (15 : Int32)) - ((u2 &&& (15 : Int32)) / (9 : Int32)) * (9 : Int32))), .val (.int (7 : Int32))] [(.ref b98)]))
          refine own_st (fun _ k => XS.iload X121.here hx rfl (hb hby at_194) rfl k) ?_
          show own_Go _ _ _ _ (T121.setTop (mkF m 196 #[.val (.int u0), .val (.long u1), .second, .val (.int u2), .val (.ref b98), .val (.int ((u2 &&& (15 : Int32)) - ((u2 &&& (15 : Int32)) / (9 : Int32)) * (9 : Int32))), .val (.int (7 : Int32))] [(.int ((u2 &&& (15 : Int32)) - ((u2 &&& (15 : Int32)) / (9 : Int32)) * (9 : Int32))), (.ref b98)]))
          obtain ⟨_, _, ⟨T127, L127, k127, n127⟩, -, X127, ⟨Lc127, hQ127, l127, y127, z127⟩, st127⟩ := Jvm.LawKit.callS X121 hx (y := (⟨"HttpHead", "end", "([BI)I"⟩ : MethodName)) hown (mvT hZ (hw _ (List.mem_of_getElem? (i := 8) rfl))) (mvT hZ (hw _ (List.mem_of_getElem? (i := 9) rfl))) (mvT hZ (hw _ (List.mem_of_getElem? (i := 10) rfl))) (mvT hZ (hw _ (List.mem_of_getElem? (i := 11) rfl))) (by decide) (backOf (W := 0) (rm3 l Z a0 hw [] b98 k98 ((u2 &&& (15 : Int32)) - ((u2 &&& (15 : Int32)) / (9 : Int32)) * (9 : Int32)) (nar .byte r99) (nar .byte r101) (nar .byte r103) (nar .byte r105) (nar .byte r107) (nar .byte r109) (nar .byte r111) (nar .byte r113) h114 n0 Z114 V114' (own_le8 u2)) hZ (hw _ (List.mem_of_getElem? (i := 11) rfl)) (hw _ (List.mem_of_getElem? (i := 10) rfl)) (by decide) (by decide)) (g := (mkF m 196 #[.val (.int u0), .val (.long u1), .second, .val (.int u2), .val (.ref b98), .val (.int ((u2 &&& (15 : Int32)) - ((u2 &&& (15 : Int32)) / (9 : Int32)) * (9 : Int32))), .val (.int (7 : Int32))] [(.int ((u2 &&& (15 : Int32)) - ((u2 &&& (15 : Int32)) / (9 : Int32)) * (9 : Int32))), (.ref b98)])) rfl (by rw [hml]; rfl) (argsL := [(.ref b98), (.int ((u2 &&& (15 : Int32)) - ((u2 &&& (15 : Int32)) / (9 : Int32)) * (9 : Int32)))]) (rest := []) (lenOf own_pd2 rfl) rfl (by show 2 * 0 + _ ≤ _; exact Nat.le_of_eq rfl) (hb hby at_196) (fun _ _ => ⟨rfl, eq121, (by decide : 1 + 0 ≤ _), (by decide : 8 + 0 ≤ _)⟩)
          dsimp only [Pt.U, Pt.locs, Pt.cells, Pt.slots] at X127 l127 y127 z127 st127 hQ127
          rw [l127, y127, z127] at X127
          obtain ⟨rfl, Nq127, eq127⟩ := hQ127
          have N127 := Fr.app N121 Nq127
          refine own_st st127 ?_
          show own_Go _ _ _ _ (T127.setTop (mkF m 199 #[.val (.int u0), .val (.long u1), .second, .val (.int u2), .val (.ref b98), .val (.int ((u2 &&& (15 : Int32)) - ((u2 &&& (15 : Int32)) / (9 : Int32)) * (9 : Int32))), .val (.int (7 : Int32))] [(.int (own_end ((u2 &&& (15 : Int32)) - ((u2 &&& (15 : Int32)) / (9 : Int32)) * (9 : Int32)) (nar .byte r99) (nar .byte r101) (nar .byte r103) (nar .byte r105) (nar .byte r107) (nar .byte r109) (nar .byte r111) (nar .byte r113)))]))
          refine own_st (fun _ k => XS.iload X127.here hx rfl (hb hby at_199) rfl k) ?_
          show own_Go _ _ _ _ (T127.setTop (mkF m 201 #[.val (.int u0), .val (.long u1), .second, .val (.int u2), .val (.ref b98), .val (.int ((u2 &&& (15 : Int32)) - ((u2 &&& (15 : Int32)) / (9 : Int32)) * (9 : Int32))), .val (.int (7 : Int32))] [(.int (7 : Int32)), (.int (own_end ((u2 &&& (15 : Int32)) - ((u2 &&& (15 : Int32)) / (9 : Int32)) * (9 : Int32)) (nar .byte r99) (nar .byte r101) (nar .byte r103) (nar .byte r105) (nar .byte r107) (nar .byte r109) (nar .byte r111) (nar .byte r113)))]))
          refine own_st (fun _ k => XS.icmpNo X127.here hx rfl (hb hby at_201) rfl (teq (own_fin7 _ _ _ _ _ _ _ _ _ hc116 hc118 hc120 hc122)).2 k) ?_
          show own_Go _ _ _ _ (T127.setTop (mkF m 204 #[.val (.int u0), .val (.long u1), .second, .val (.int u2), .val (.ref b98), .val (.int ((u2 &&& (15 : Int32)) - ((u2 &&& (15 : Int32)) / (9 : Int32)) * (9 : Int32))), .val (.int (7 : Int32))] []))
          refine own_st (fun _ k => XS.iconst X127.here hx rfl (hb hby at_204) k) ?_
          show own_Go _ _ _ _ (T127.setTop (mkF m 205 #[.val (.int u0), .val (.long u1), .second, .val (.int u2), .val (.ref b98), .val (.int ((u2 &&& (15 : Int32)) - ((u2 &&& (15 : Int32)) / (9 : Int32)) * (9 : Int32))), .val (.int (7 : Int32))] [(.int (1 : Int32))]))
          refine own_st (fun _ k => XS.goto X127.here hx rfl (pc0 := 205) (pc' := 209) rfl (hb hby at_205) (by decide) (by decide) k) ?_
          show own_Go _ _ _ _ (T127.setTop (mkF m 209 #[.val (.int u0), .val (.long u1), .second, .val (.int u2), .val (.ref b98), .val (.int ((u2 &&& (15 : Int32)) - ((u2 &&& (15 : Int32)) / (9 : Int32)) * (9 : Int32))), .val (.int (7 : Int32))] [(.int (1 : Int32))]))
          obtain ⟨fs, hr, hrun, hended, hW, hsame⟩ := X127.leave (v := some (.int (1 : Int32))) (fun h => by rw [Bd.returns] at h; cases h)
          refine own_out (retN X127 hx (t := .boolean) Bd.returns (by simp) (hb hby at_209) hr) ⟨hrun, hended, _, _, rfl, ?_, ⟨_, rfl⟩, hW, hsame.mono (by decide) (by decide)⟩
          show Q0 Z u0 u1 u2 h0 n0 _ T127.heap _
          exact ⟨rfl, N127⟩
      · skip
        refine own_st (fun _ k => XS.ifNo X119.here hx rfl (hb hby at_141) rfl ((if0 _ _).trans (feq hc120).1) k) ?_
        show own_Go _ _ _ _ (T119.setTop (mkF m 144 #[.val (.int u0), .val (.long u1), .second, .val (.int u2), .val (.ref b98), .val (.int ((u2 &&& (15 : Int32)) - ((u2 &&& (15 : Int32)) / (9 : Int32)) * (9 : Int32))), .unset] []))
        refine own_st (fun _ k => XS.bipush X119.here hx rfl (hb hby at_144) k) ?_
        show own_Go _ _ _ _ (T119.setTop (mkF m 146 #[.val (.int u0), .val (.long u1), .second, .val (.int u2), .val (.ref b98), .val (.int ((u2 &&& (15 : Int32)) - ((u2 &&& (15 : Int32)) / (9 : Int32)) * (9 : Int32))), .unset] [(.int (6 : Int32))]))
        refine own_st (fun _ k => XS.istore X119.here hx rfl (hb hby at_146) rfl (l' := #[.val (.int u0), .val (.long u1), .second, .val (.int u2), .val (.ref b98), .val (.int ((u2 &&& (15 : Int32)) - ((u2 &&& (15 : Int32)) / (9 : Int32)) * (9 : Int32))), .val (.int (6 : Int32))]) rfl k) ?_
        show own_Go _ _ _ _ (T119.setTop (mkF m 148 #[.val (.int u0), .val (.long u1), .second, .val (.int u2), .val (.ref b98), .val (.int ((u2 &&& (15 : Int32)) - ((u2 &&& (15 : Int32)) / (9 : Int32)) * (9 : Int32))), .val (.int (6 : Int32))] []))
        refine own_st (fun _ k => XS.goto X119.here hx rfl (pc0 := 148) (pc' := 192) rfl (hb hby at_148) (by decide) (by decide) k) ?_
        show own_Go _ _ _ _ (T119.setTop (mkF m 192 #[.val (.int u0), .val (.long u1), .second, .val (.int u2), .val (.ref b98), .val (.int ((u2 &&& (15 : Int32)) - ((u2 &&& (15 : Int32)) / (9 : Int32)) * (9 : Int32))), .val (.int (6 : Int32))] []))
        refine own_st (fun _ k => XS.aload X119.here hx rfl (hb hby at_192) rfl rfl k) ?_
        show own_Go _ _ _ _ (T119.setTop (mkF m 194 #[.val (.int u0), .val (.long u1), .second, .val (.int u2), .val (.ref b98), .val (.int ((u2 &&& (15 : Int32)) - ((u2 &&& (15 : Int32)) / (9 : Int32)) * (9 : Int32))), .val (.int (6 : Int32))] [(.ref b98)]))
        refine own_st (fun _ k => XS.iload X119.here hx rfl (hb hby at_194) rfl k) ?_
        show own_Go _ _ _ _ (T119.setTop (mkF m 196 #[.val (.int u0), .val (.long u1), .second, .val (.int u2), .val (.ref b98), .val (.int ((u2 &&& (15 : Int32)) - ((u2 &&& (15 : Int32)) / (9 : Int32)) * (9 : Int32))), .val (.int (6 : Int32))] [(.int ((u2 &&& (15 : Int32)) - ((u2 &&& (15 : Int32)) / (9 : Int32)) * (9 : Int32))), (.ref b98)]))
        obtain ⟨_, _, ⟨T128, L128, k128, n128⟩, -, X128, ⟨Lc128, hQ128, l128, y128, z128⟩, st128⟩ := Jvm.LawKit.callS X119 hx (y := (⟨"HttpHead", "end", "([BI)I"⟩ : MethodName)) hown (mvT hZ (hw _ (List.mem_of_getElem? (i := 8) rfl))) (mvT hZ (hw _ (List.mem_of_getElem? (i := 9) rfl))) (mvT hZ (hw _ (List.mem_of_getElem? (i := 10) rfl))) (mvT hZ (hw _ (List.mem_of_getElem? (i := 11) rfl))) (by decide) (backOf (W := 0) (rm3 l Z a0 hw [] b98 k98 ((u2 &&& (15 : Int32)) - ((u2 &&& (15 : Int32)) / (9 : Int32)) * (9 : Int32)) (nar .byte r99) (nar .byte r101) (nar .byte r103) (nar .byte r105) (nar .byte r107) (nar .byte r109) (nar .byte r111) (nar .byte r113) h114 n0 Z114 V114' (own_le8 u2)) hZ (hw _ (List.mem_of_getElem? (i := 11) rfl)) (hw _ (List.mem_of_getElem? (i := 10) rfl)) (by decide) (by decide)) (g := (mkF m 196 #[.val (.int u0), .val (.long u1), .second, .val (.int u2), .val (.ref b98), .val (.int ((u2 &&& (15 : Int32)) - ((u2 &&& (15 : Int32)) / (9 : Int32)) * (9 : Int32))), .val (.int (6 : Int32))] [(.int ((u2 &&& (15 : Int32)) - ((u2 &&& (15 : Int32)) / (9 : Int32)) * (9 : Int32))), (.ref b98)])) rfl (by rw [hml]; rfl) (argsL := [(.ref b98), (.int ((u2 &&& (15 : Int32)) - ((u2 &&& (15 : Int32)) / (9 : Int32)) * (9 : Int32)))]) (rest := []) (lenOf own_pd2 rfl) rfl (by show 2 * 0 + _ ≤ _; exact Nat.le_of_eq rfl) (hb hby at_196) (fun _ _ => ⟨rfl, eq119, (by decide : 1 + 0 ≤ _), (by decide : 8 + 0 ≤ _)⟩)
        dsimp only [Pt.U, Pt.locs, Pt.cells, Pt.slots] at X128 l128 y128 z128 st128 hQ128
        rw [l128, y128, z128] at X128
        obtain ⟨rfl, Nq128, eq128⟩ := hQ128
        have N128 := Fr.app N119 Nq128
        refine own_st st128 ?_
        show own_Go _ _ _ _ (T128.setTop (mkF m 199 #[.val (.int u0), .val (.long u1), .second, .val (.int u2), .val (.ref b98), .val (.int ((u2 &&& (15 : Int32)) - ((u2 &&& (15 : Int32)) / (9 : Int32)) * (9 : Int32))), .val (.int (6 : Int32))] [(.int (own_end ((u2 &&& (15 : Int32)) - ((u2 &&& (15 : Int32)) / (9 : Int32)) * (9 : Int32)) (nar .byte r99) (nar .byte r101) (nar .byte r103) (nar .byte r105) (nar .byte r107) (nar .byte r109) (nar .byte r111) (nar .byte r113)))]))
        refine own_st (fun _ k => XS.iload X128.here hx rfl (hb hby at_199) rfl k) ?_
        show own_Go _ _ _ _ (T128.setTop (mkF m 201 #[.val (.int u0), .val (.long u1), .second, .val (.int u2), .val (.ref b98), .val (.int ((u2 &&& (15 : Int32)) - ((u2 &&& (15 : Int32)) / (9 : Int32)) * (9 : Int32))), .val (.int (6 : Int32))] [(.int (6 : Int32)), (.int (own_end ((u2 &&& (15 : Int32)) - ((u2 &&& (15 : Int32)) / (9 : Int32)) * (9 : Int32)) (nar .byte r99) (nar .byte r101) (nar .byte r103) (nar .byte r105) (nar .byte r107) (nar .byte r109) (nar .byte r111) (nar .byte r113)))]))
        refine own_st (fun _ k => XS.icmpNo X128.here hx rfl (hb hby at_201) rfl (teq (own_fin6 _ _ _ _ _ _ _ _ _ hc116 hc118 hc120)).2 k) ?_
        show own_Go _ _ _ _ (T128.setTop (mkF m 204 #[.val (.int u0), .val (.long u1), .second, .val (.int u2), .val (.ref b98), .val (.int ((u2 &&& (15 : Int32)) - ((u2 &&& (15 : Int32)) / (9 : Int32)) * (9 : Int32))), .val (.int (6 : Int32))] []))
        refine own_st (fun _ k => XS.iconst X128.here hx rfl (hb hby at_204) k) ?_
        show own_Go _ _ _ _ (T128.setTop (mkF m 205 #[.val (.int u0), .val (.long u1), .second, .val (.int u2), .val (.ref b98), .val (.int ((u2 &&& (15 : Int32)) - ((u2 &&& (15 : Int32)) / (9 : Int32)) * (9 : Int32))), .val (.int (6 : Int32))] [(.int (1 : Int32))]))
        refine own_st (fun _ k => XS.goto X128.here hx rfl (pc0 := 205) (pc' := 209) rfl (hb hby at_205) (by decide) (by decide) k) ?_
        show own_Go _ _ _ _ (T128.setTop (mkF m 209 #[.val (.int u0), .val (.long u1), .second, .val (.int u2), .val (.ref b98), .val (.int ((u2 &&& (15 : Int32)) - ((u2 &&& (15 : Int32)) / (9 : Int32)) * (9 : Int32))), .val (.int (6 : Int32))] [(.int (1 : Int32))]))
        obtain ⟨fs, hr, hrun, hended, hW, hsame⟩ := X128.leave (v := some (.int (1 : Int32))) (fun h => by rw [Bd.returns] at h; cases h)
        refine own_out (retN X128 hx (t := .boolean) Bd.returns (by simp) (hb hby at_209) hr) ⟨hrun, hended, _, _, rfl, ?_, ⟨_, rfl⟩, hW, hsame.mono (by decide) (by decide)⟩
        show Q0 Z u0 u1 u2 h0 n0 _ T128.heap _
        exact ⟨rfl, N128⟩
    · skip
      refine own_st (fun _ k => XS.ifNo X117.here hx rfl (hb hby at_124) rfl ((if0 _ _).trans (feq hc118).1) k) ?_
      show own_Go _ _ _ _ (T117.setTop (mkF m 127 #[.val (.int u0), .val (.long u1), .second, .val (.int u2), .val (.ref b98), .val (.int ((u2 &&& (15 : Int32)) - ((u2 &&& (15 : Int32)) / (9 : Int32)) * (9 : Int32))), .unset] []))
      refine own_st (fun _ k => XS.iconst X117.here hx rfl (hb hby at_127) k) ?_
      show own_Go _ _ _ _ (T117.setTop (mkF m 128 #[.val (.int u0), .val (.long u1), .second, .val (.int u2), .val (.ref b98), .val (.int ((u2 &&& (15 : Int32)) - ((u2 &&& (15 : Int32)) / (9 : Int32)) * (9 : Int32))), .unset] [(.int (5 : Int32))]))
      refine own_st (fun _ k => XS.istore X117.here hx rfl (hb hby at_128) rfl (l' := #[.val (.int u0), .val (.long u1), .second, .val (.int u2), .val (.ref b98), .val (.int ((u2 &&& (15 : Int32)) - ((u2 &&& (15 : Int32)) / (9 : Int32)) * (9 : Int32))), .val (.int (5 : Int32))]) rfl k) ?_
      show own_Go _ _ _ _ (T117.setTop (mkF m 130 #[.val (.int u0), .val (.long u1), .second, .val (.int u2), .val (.ref b98), .val (.int ((u2 &&& (15 : Int32)) - ((u2 &&& (15 : Int32)) / (9 : Int32)) * (9 : Int32))), .val (.int (5 : Int32))] []))
      refine own_st (fun _ k => XS.goto X117.here hx rfl (pc0 := 130) (pc' := 192) rfl (hb hby at_130) (by decide) (by decide) k) ?_
      show own_Go _ _ _ _ (T117.setTop (mkF m 192 #[.val (.int u0), .val (.long u1), .second, .val (.int u2), .val (.ref b98), .val (.int ((u2 &&& (15 : Int32)) - ((u2 &&& (15 : Int32)) / (9 : Int32)) * (9 : Int32))), .val (.int (5 : Int32))] []))
      refine own_st (fun _ k => XS.aload X117.here hx rfl (hb hby at_192) rfl rfl k) ?_
      show own_Go _ _ _ _ (T117.setTop (mkF m 194 #[.val (.int u0), .val (.long u1), .second, .val (.int u2), .val (.ref b98), .val (.int ((u2 &&& (15 : Int32)) - ((u2 &&& (15 : Int32)) / (9 : Int32)) * (9 : Int32))), .val (.int (5 : Int32))] [(.ref b98)]))
      refine own_st (fun _ k => XS.iload X117.here hx rfl (hb hby at_194) rfl k) ?_
      show own_Go _ _ _ _ (T117.setTop (mkF m 196 #[.val (.int u0), .val (.long u1), .second, .val (.int u2), .val (.ref b98), .val (.int ((u2 &&& (15 : Int32)) - ((u2 &&& (15 : Int32)) / (9 : Int32)) * (9 : Int32))), .val (.int (5 : Int32))] [(.int ((u2 &&& (15 : Int32)) - ((u2 &&& (15 : Int32)) / (9 : Int32)) * (9 : Int32))), (.ref b98)]))
      obtain ⟨_, _, ⟨T129, L129, k129, n129⟩, -, X129, ⟨Lc129, hQ129, l129, y129, z129⟩, st129⟩ := Jvm.LawKit.callS X117 hx (y := (⟨"HttpHead", "end", "([BI)I"⟩ : MethodName)) hown (mvT hZ (hw _ (List.mem_of_getElem? (i := 8) rfl))) (mvT hZ (hw _ (List.mem_of_getElem? (i := 9) rfl))) (mvT hZ (hw _ (List.mem_of_getElem? (i := 10) rfl))) (mvT hZ (hw _ (List.mem_of_getElem? (i := 11) rfl))) (by decide) (backOf (W := 0) (rm3 l Z a0 hw [] b98 k98 ((u2 &&& (15 : Int32)) - ((u2 &&& (15 : Int32)) / (9 : Int32)) * (9 : Int32)) (nar .byte r99) (nar .byte r101) (nar .byte r103) (nar .byte r105) (nar .byte r107) (nar .byte r109) (nar .byte r111) (nar .byte r113) h114 n0 Z114 V114' (own_le8 u2)) hZ (hw _ (List.mem_of_getElem? (i := 11) rfl)) (hw _ (List.mem_of_getElem? (i := 10) rfl)) (by decide) (by decide)) (g := (mkF m 196 #[.val (.int u0), .val (.long u1), .second, .val (.int u2), .val (.ref b98), .val (.int ((u2 &&& (15 : Int32)) - ((u2 &&& (15 : Int32)) / (9 : Int32)) * (9 : Int32))), .val (.int (5 : Int32))] [(.int ((u2 &&& (15 : Int32)) - ((u2 &&& (15 : Int32)) / (9 : Int32)) * (9 : Int32))), (.ref b98)])) rfl (by rw [hml]; rfl) (argsL := [(.ref b98), (.int ((u2 &&& (15 : Int32)) - ((u2 &&& (15 : Int32)) / (9 : Int32)) * (9 : Int32)))]) (rest := []) (lenOf own_pd2 rfl) rfl (by show 2 * 0 + _ ≤ _; exact Nat.le_of_eq rfl) (hb hby at_196) (fun _ _ => ⟨rfl, eq117, (by decide : 1 + 0 ≤ _), (by decide : 8 + 0 ≤ _)⟩)
      dsimp only [Pt.U, Pt.locs, Pt.cells, Pt.slots] at X129 l129 y129 z129 st129 hQ129
      rw [l129, y129, z129] at X129
      obtain ⟨rfl, Nq129, eq129⟩ := hQ129
      have N129 := Fr.app N117 Nq129
      refine own_st st129 ?_
      show own_Go _ _ _ _ (T129.setTop (mkF m 199 #[.val (.int u0), .val (.long u1), .second, .val (.int u2), .val (.ref b98), .val (.int ((u2 &&& (15 : Int32)) - ((u2 &&& (15 : Int32)) / (9 : Int32)) * (9 : Int32))), .val (.int (5 : Int32))] [(.int (own_end ((u2 &&& (15 : Int32)) - ((u2 &&& (15 : Int32)) / (9 : Int32)) * (9 : Int32)) (nar .byte r99) (nar .byte r101) (nar .byte r103) (nar .byte r105) (nar .byte r107) (nar .byte r109) (nar .byte r111) (nar .byte r113)))]))
      refine own_st (fun _ k => XS.iload X129.here hx rfl (hb hby at_199) rfl k) ?_
      show own_Go _ _ _ _ (T129.setTop (mkF m 201 #[.val (.int u0), .val (.long u1), .second, .val (.int u2), .val (.ref b98), .val (.int ((u2 &&& (15 : Int32)) - ((u2 &&& (15 : Int32)) / (9 : Int32)) * (9 : Int32))), .val (.int (5 : Int32))] [(.int (5 : Int32)), (.int (own_end ((u2 &&& (15 : Int32)) - ((u2 &&& (15 : Int32)) / (9 : Int32)) * (9 : Int32)) (nar .byte r99) (nar .byte r101) (nar .byte r103) (nar .byte r105) (nar .byte r107) (nar .byte r109) (nar .byte r111) (nar .byte r113)))]))
      refine own_st (fun _ k => XS.icmpNo X129.here hx rfl (hb hby at_201) rfl (teq (own_fin5 _ _ _ _ _ _ _ _ _ hc116 hc118)).2 k) ?_
      show own_Go _ _ _ _ (T129.setTop (mkF m 204 #[.val (.int u0), .val (.long u1), .second, .val (.int u2), .val (.ref b98), .val (.int ((u2 &&& (15 : Int32)) - ((u2 &&& (15 : Int32)) / (9 : Int32)) * (9 : Int32))), .val (.int (5 : Int32))] []))
      refine own_st (fun _ k => XS.iconst X129.here hx rfl (hb hby at_204) k) ?_
      show own_Go _ _ _ _ (T129.setTop (mkF m 205 #[.val (.int u0), .val (.long u1), .second, .val (.int u2), .val (.ref b98), .val (.int ((u2 &&& (15 : Int32)) - ((u2 &&& (15 : Int32)) / (9 : Int32)) * (9 : Int32))), .val (.int (5 : Int32))] [(.int (1 : Int32))]))
      refine own_st (fun _ k => XS.goto X129.here hx rfl (pc0 := 205) (pc' := 209) rfl (hb hby at_205) (by decide) (by decide) k) ?_
      show own_Go _ _ _ _ (T129.setTop (mkF m 209 #[.val (.int u0), .val (.long u1), .second, .val (.int u2), .val (.ref b98), .val (.int ((u2 &&& (15 : Int32)) - ((u2 &&& (15 : Int32)) / (9 : Int32)) * (9 : Int32))), .val (.int (5 : Int32))] [(.int (1 : Int32))]))
      obtain ⟨fs, hr, hrun, hended, hW, hsame⟩ := X129.leave (v := some (.int (1 : Int32))) (fun h => by rw [Bd.returns] at h; cases h)
      refine own_out (retN X129 hx (t := .boolean) Bd.returns (by simp) (hb hby at_209) hr) ⟨hrun, hended, _, _, rfl, ?_, ⟨_, rfl⟩, hW, hsame.mono (by decide) (by decide)⟩
      show Q0 Z u0 u1 u2 h0 n0 _ T129.heap _
      exact ⟨rfl, N129⟩
  · skip
    refine own_st (fun _ k => XS.ifNo X115.here hx rfl (hb hby at_107) rfl ((if0 _ _).trans (feq hc116).1) k) ?_
    show own_Go _ _ _ _ (T115.setTop (mkF m 110 #[.val (.int u0), .val (.long u1), .second, .val (.int u2), .val (.ref b98), .val (.int ((u2 &&& (15 : Int32)) - ((u2 &&& (15 : Int32)) / (9 : Int32)) * (9 : Int32))), .unset] []))
    refine own_st (fun _ k => XS.iconst X115.here hx rfl (hb hby at_110) k) ?_
    show own_Go _ _ _ _ (T115.setTop (mkF m 111 #[.val (.int u0), .val (.long u1), .second, .val (.int u2), .val (.ref b98), .val (.int ((u2 &&& (15 : Int32)) - ((u2 &&& (15 : Int32)) / (9 : Int32)) * (9 : Int32))), .unset] [(.int (4 : Int32))]))
    refine own_st (fun _ k => XS.istore X115.here hx rfl (hb hby at_111) rfl (l' := #[.val (.int u0), .val (.long u1), .second, .val (.int u2), .val (.ref b98), .val (.int ((u2 &&& (15 : Int32)) - ((u2 &&& (15 : Int32)) / (9 : Int32)) * (9 : Int32))), .val (.int (4 : Int32))]) rfl k) ?_
    show own_Go _ _ _ _ (T115.setTop (mkF m 113 #[.val (.int u0), .val (.long u1), .second, .val (.int u2), .val (.ref b98), .val (.int ((u2 &&& (15 : Int32)) - ((u2 &&& (15 : Int32)) / (9 : Int32)) * (9 : Int32))), .val (.int (4 : Int32))] []))
    refine own_st (fun _ k => XS.goto X115.here hx rfl (pc0 := 113) (pc' := 192) rfl (hb hby at_113) (by decide) (by decide) k) ?_
    show own_Go _ _ _ _ (T115.setTop (mkF m 192 #[.val (.int u0), .val (.long u1), .second, .val (.int u2), .val (.ref b98), .val (.int ((u2 &&& (15 : Int32)) - ((u2 &&& (15 : Int32)) / (9 : Int32)) * (9 : Int32))), .val (.int (4 : Int32))] []))
    refine own_st (fun _ k => XS.aload X115.here hx rfl (hb hby at_192) rfl rfl k) ?_
    show own_Go _ _ _ _ (T115.setTop (mkF m 194 #[.val (.int u0), .val (.long u1), .second, .val (.int u2), .val (.ref b98), .val (.int ((u2 &&& (15 : Int32)) - ((u2 &&& (15 : Int32)) / (9 : Int32)) * (9 : Int32))), .val (.int (4 : Int32))] [(.ref b98)]))
    refine own_st (fun _ k => XS.iload X115.here hx rfl (hb hby at_194) rfl k) ?_
    show own_Go _ _ _ _ (T115.setTop (mkF m 196 #[.val (.int u0), .val (.long u1), .second, .val (.int u2), .val (.ref b98), .val (.int ((u2 &&& (15 : Int32)) - ((u2 &&& (15 : Int32)) / (9 : Int32)) * (9 : Int32))), .val (.int (4 : Int32))] [(.int ((u2 &&& (15 : Int32)) - ((u2 &&& (15 : Int32)) / (9 : Int32)) * (9 : Int32))), (.ref b98)]))
    obtain ⟨_, _, ⟨T130, L130, k130, n130⟩, -, X130, ⟨Lc130, hQ130, l130, y130, z130⟩, st130⟩ := Jvm.LawKit.callS X115 hx (y := (⟨"HttpHead", "end", "([BI)I"⟩ : MethodName)) hown (mvT hZ (hw _ (List.mem_of_getElem? (i := 8) rfl))) (mvT hZ (hw _ (List.mem_of_getElem? (i := 9) rfl))) (mvT hZ (hw _ (List.mem_of_getElem? (i := 10) rfl))) (mvT hZ (hw _ (List.mem_of_getElem? (i := 11) rfl))) (by decide) (backOf (W := 0) (rm3 l Z a0 hw [] b98 k98 ((u2 &&& (15 : Int32)) - ((u2 &&& (15 : Int32)) / (9 : Int32)) * (9 : Int32)) (nar .byte r99) (nar .byte r101) (nar .byte r103) (nar .byte r105) (nar .byte r107) (nar .byte r109) (nar .byte r111) (nar .byte r113) h114 n0 Z114 V114' (own_le8 u2)) hZ (hw _ (List.mem_of_getElem? (i := 11) rfl)) (hw _ (List.mem_of_getElem? (i := 10) rfl)) (by decide) (by decide)) (g := (mkF m 196 #[.val (.int u0), .val (.long u1), .second, .val (.int u2), .val (.ref b98), .val (.int ((u2 &&& (15 : Int32)) - ((u2 &&& (15 : Int32)) / (9 : Int32)) * (9 : Int32))), .val (.int (4 : Int32))] [(.int ((u2 &&& (15 : Int32)) - ((u2 &&& (15 : Int32)) / (9 : Int32)) * (9 : Int32))), (.ref b98)])) rfl (by rw [hml]; rfl) (argsL := [(.ref b98), (.int ((u2 &&& (15 : Int32)) - ((u2 &&& (15 : Int32)) / (9 : Int32)) * (9 : Int32)))]) (rest := []) (lenOf own_pd2 rfl) rfl (by show 2 * 0 + _ ≤ _; exact Nat.le_of_eq rfl) (hb hby at_196) (fun _ _ => ⟨rfl, eq115, (by decide : 1 + 0 ≤ _), (by decide : 8 + 0 ≤ _)⟩)
    dsimp only [Pt.U, Pt.locs, Pt.cells, Pt.slots] at X130 l130 y130 z130 st130 hQ130
    rw [l130, y130, z130] at X130
    obtain ⟨rfl, Nq130, eq130⟩ := hQ130
    have N130 := Fr.app N115 Nq130
    refine own_st st130 ?_
    show own_Go _ _ _ _ (T130.setTop (mkF m 199 #[.val (.int u0), .val (.long u1), .second, .val (.int u2), .val (.ref b98), .val (.int ((u2 &&& (15 : Int32)) - ((u2 &&& (15 : Int32)) / (9 : Int32)) * (9 : Int32))), .val (.int (4 : Int32))] [(.int (own_end ((u2 &&& (15 : Int32)) - ((u2 &&& (15 : Int32)) / (9 : Int32)) * (9 : Int32)) (nar .byte r99) (nar .byte r101) (nar .byte r103) (nar .byte r105) (nar .byte r107) (nar .byte r109) (nar .byte r111) (nar .byte r113)))]))
    refine own_st (fun _ k => XS.iload X130.here hx rfl (hb hby at_199) rfl k) ?_
    show own_Go _ _ _ _ (T130.setTop (mkF m 201 #[.val (.int u0), .val (.long u1), .second, .val (.int u2), .val (.ref b98), .val (.int ((u2 &&& (15 : Int32)) - ((u2 &&& (15 : Int32)) / (9 : Int32)) * (9 : Int32))), .val (.int (4 : Int32))] [(.int (4 : Int32)), (.int (own_end ((u2 &&& (15 : Int32)) - ((u2 &&& (15 : Int32)) / (9 : Int32)) * (9 : Int32)) (nar .byte r99) (nar .byte r101) (nar .byte r103) (nar .byte r105) (nar .byte r107) (nar .byte r109) (nar .byte r111) (nar .byte r113)))]))
    refine own_st (fun _ k => XS.icmpNo X130.here hx rfl (hb hby at_201) rfl (teq (own_fin4 _ _ _ _ _ _ _ _ _ hc116)).2 k) ?_
    show own_Go _ _ _ _ (T130.setTop (mkF m 204 #[.val (.int u0), .val (.long u1), .second, .val (.int u2), .val (.ref b98), .val (.int ((u2 &&& (15 : Int32)) - ((u2 &&& (15 : Int32)) / (9 : Int32)) * (9 : Int32))), .val (.int (4 : Int32))] []))
    refine own_st (fun _ k => XS.iconst X130.here hx rfl (hb hby at_204) k) ?_
    show own_Go _ _ _ _ (T130.setTop (mkF m 205 #[.val (.int u0), .val (.long u1), .second, .val (.int u2), .val (.ref b98), .val (.int ((u2 &&& (15 : Int32)) - ((u2 &&& (15 : Int32)) / (9 : Int32)) * (9 : Int32))), .val (.int (4 : Int32))] [(.int (1 : Int32))]))
    refine own_st (fun _ k => XS.goto X130.here hx rfl (pc0 := 205) (pc' := 209) rfl (hb hby at_205) (by decide) (by decide) k) ?_
    show own_Go _ _ _ _ (T130.setTop (mkF m 209 #[.val (.int u0), .val (.long u1), .second, .val (.int u2), .val (.ref b98), .val (.int ((u2 &&& (15 : Int32)) - ((u2 &&& (15 : Int32)) / (9 : Int32)) * (9 : Int32))), .val (.int (4 : Int32))] [(.int (1 : Int32))]))
    obtain ⟨fs, hr, hrun, hended, hW, hsame⟩ := X130.leave (v := some (.int (1 : Int32))) (fun h => by rw [Bd.returns] at h; cases h)
    refine own_out (retN X130 hx (t := .boolean) Bd.returns (by simp) (hb hby at_209) hr) ⟨hrun, hended, _, _, rfl, ?_, ⟨_, rfl⟩, hW, hsame.mono (by decide) (by decide)⟩
    show Q0 Z u0 u1 u2 h0 n0 _ T130.heap _
    exact ⟨rfl, N130⟩
set_option maxRecDepth 65536 in
set_option maxHeartbeats 40000000 in
theorem comes_1 {Post : Tables → Env → Array Value → State → Outcome → State → Prop} (hpost : ∀ tb e args s v u, (limb_1_1.after args s (.returned v) u = true ∧ limb_1_2.after args s (.returned v) u = true ∧ True) → FrameEnd s (.returned v) u (Jvm.fieldLocs frame_1_writes args s ++ Jvm.arrayLocs frame_1_arrays args s ++ Jvm.staticLocs frame_1_statics s) 16 128 → Post tb e args s (.returned v) u) :
    ArmFor flags0 classFile x code maxLocals ret World_1 tables_1 room_1 Calls_1 rest_1 Pre_1 Post := by
  intro l hfl _ _ p e ha hc hk s m args below hf hA hF happ hP
  obtain ⟨hcalls, hrest, hpre⟩ := hP
  obtain ⟨-, -, -, hnamed, -, -, -, hat⟩ := (Spec.applies_iff hf).mp happ
  obtain ⟨hg, hn⟩ := and_e (Cond.before_iff.mp (show (Jvm.Cond.and given_1 narrow_1).before args s = true from hpre))
  obtain ⟨h1, h2⟩ := and_e hg
  obtain ⟨ha0, h2⟩ := and_e h2
  obtain ⟨ha1, h2⟩ := and_e h2
  have ha2 := h2
  obtain ⟨w0, w1, w2, rfl⟩ : ∃ w0 w1 w2 : Value, args = #[w0, w1, w2] := by
    have hs : args.size = 3 := by simpa [Cond.value, given_1] using h1
    obtain ⟨L⟩ := args
    match L, hs with
    | [w0, w1, w2], _ => exact ⟨w0, w1, w2, rfl⟩
  have hw := fun d (hd : d ∈ tables_1) => atoms_spec (ws := Jvm.Cond.code x code maxLocals ret :: tables_1) hat d (List.mem_cons_of_mem _ hd)
  obtain ⟨i0, ei0⟩ := is_v ha0
  obtain rfl : w0 = (.int i0) := Option.some.inj ei0
  obtain ⟨i1, ei1⟩ := isL_v ha1
  obtain rfl : w1 = (.long i1) := Option.some.inj ei1
  obtain ⟨i2, ei2⟩ := is_v ha2
  obtain rfl : w2 = (.int i2) := Option.some.inj ei2
  obtain ⟨n, o, h1, h2, h3, _, L, rfl, ⟨rfl, N⟩, hq⟩ := rm0 l s _ hw tables_1 i0 i1 i2 s.heap s.heap.size (Nat.le_refl _)  p e ha hc hk s m _ below hf ((Spec.applies_iff_loose hf).mp happ).1 ⟨rfl, State.Warmed39.refl s, rfl⟩ trivial
  refine ⟨n, _, h1, h2, h3, hpost _ _ _ _ _ _ ⟨Cond.after_iff.mpr rfl, Cond.after_iff.mpr (eq_i res_at (Term.int_eval (1)) rfl), trivial⟩ ⟨hq.1, hq.2.1, (hq.2.2.sift fun y hy => Or.inr (N y hy)).mono (by decide) (by decide)⟩⟩
theorem main_1_1 : Claimed_1_1 := comes_1 fun _ _ _ _ _ _ h hF => ⟨h.1, hF⟩
theorem main_1_2 : Claimed_1_2 := comes_1 fun _ _ _ _ _ _ h hF => ⟨h.2.1, hF⟩
end Jvm.Pilot.@@N@@
namespace Jvm.Pilot.@@N@@
open Jvm Jvm.ClassFile Sem Op Lib Jvm.Free Jvm.Stand Jvm.Pilot.@@N@@.Jvm.D
/-! MADE BY PROGRAM (witnessworld.py) out of the Statement's table words and the real class files: 9 classes; the members and pool entries that the words name. The judged class is class 1, her method 3. -/
namespace start1
open Jvm.ClassFile
def u (s : String) : CpInfo := .utf8 (stringToUtf16 s)
/-- a pool by its gaps: so many unusable entries, then the entry; so many at the end -/
def gap : Nat → List CpInfo → List CpInfo
  | 0, r => r
  | n + 1, r => .unusable :: gap n r
def poolList (es : List (Nat × CpInfo)) (last : Nat) : List CpInfo := es.foldr (fun e r => gap e.1 (e.2 :: r)) (gap last [])
def pool (es : List (Nat × CpInfo)) (last : Nat) : Array CpInfo := ⟨poolList es last⟩
def fileOf (pool : Array CpInfo) (this : Nat) (attrs : Array Attribute := #[]) (ms : Array MethodInfo := #[]) (fl : Nat := 33) (sup : Nat := 0) (ifs : Array Nat := #[]) (fds : Array FieldInfo := #[]) : ClassFile where
  minorVersion := 0
  majorVersion := 65
  constantPool := pool
  accessFlags := fl
  thisClass := this
  superClass := sup
  interfaces := ifs
  fields := fds
  methods := ms
  attributes := attrs
def plain (name : String) (sup : Option ClassId) : Class where
  name := name
  kind := .ordinary
  loader := none
  accessFlags := 33
  super := sup
  interfaces := #[]
  cf := none
  fields := #[]
  methods := #[]
  instanceTypes := #[]
  staticTypes := #[]
  resolved := #[]
  callSites := []
  init := .initialized
  statics := none
  mirror := none

def pool0 : Array CpInfo := pool [(5, u "<init>"), (0, u "()V"), (1, .class_ 10), (1, u "java/lang/Object")] 113

def k0m0 : Method := { name := "<init>", desc := "()V", sig := { parameters := [], returnType := none }, accessFlags := 1, code := none }
/-- java/lang/Object -/
def k0 : Class := { plain "java/lang/Object" none with
  accessFlags := 33
  interfaces := #[]
  cf := some (fileOf pool0 8 #[] #[{ accessFlags := 1, nameIndex := 5, descriptorIndex := 6, attributes := #[] }] 33 0 #[] #[])
  fields := #[]
  methods := #[k0m0]
  instanceTypes := #[]
  staticTypes := #[]
  resolved := Array.replicate 124 none
  statics := none }

def pool1 : Array CpInfo := pool [(2, .class_ 4), (1, u "java/lang/Object"), (0, u "<init>"), (0, u "()V"), (0, .methodref 8 9), (0, .class_ 10), (0, .nameAndType 11 12), (0, u "HttpHeadEndPinLaw"), (0, u "pick"), (0, u "(IJI)B"), (0, .methodref 8 14), (0, .nameAndType 15 16), (0, u "blankLineEndsAt"), (0, u "([BII)Z"), (0, .methodref 18 19), (0, .class_ 20), (0, .nameAndType 21 22), (0, u "HttpHead"), (0, u "end"), (0, u "([BI)I"), (3, u "law"), (0, u "(IJI)Z")] 4

def k1m0 : Method := { name := "<init>", desc := "()V", sig := { parameters := [], returnType := none }, accessFlags := 2, code := none }
def k1c1 : Code := { maxStack := 4, maxLocals := 5, code := method_2_code, exceptionTable := #[], attributes := #[] }
def k1m1 : Method := { name := "pick", desc := "(IJI)B", sig := { parameters := [.int, .long, .int], returnType := some .byte }, accessFlags := 10, code := some k1c1 }
def k1c2 : Code := { maxStack := 3, maxLocals := 3, code := method_3_code, exceptionTable := #[], attributes := #[] }
def k1m2 : Method := { name := "blankLineEndsAt", desc := "([BII)Z", sig := { parameters := [(.array .byte), .int, .int], returnType := some .boolean }, accessFlags := 10, code := some k1c2 }
def k1c3 : Code := { maxStack := 6, maxLocals := 7, code := code, exceptionTable := #[], attributes := #[] }
def k1m3 : Method := { name := "law", desc := "(IJI)Z", sig := { parameters := [.int, .long, .int], returnType := some .boolean }, accessFlags := 9, code := some k1c3 }
/-- HttpHeadEndPinLaw -/
def k1 : Class := { plain "HttpHeadEndPinLaw" (some 0) with
  accessFlags := 49
  interfaces := #[]
  cf := some (fileOf pool1 8 #[] #[{ accessFlags := 2, nameIndex := 5, descriptorIndex := 6, attributes := #[] }, { accessFlags := 10, nameIndex := 11, descriptorIndex := 12, attributes := #[] }, { accessFlags := 10, nameIndex := 15, descriptorIndex := 16, attributes := #[] }, { accessFlags := 9, nameIndex := 26, descriptorIndex := 27, attributes := #[] }] 49 2 #[] #[])
  fields := #[]
  methods := #[k1m0, k1m1, k1m2, k1m3]
  instanceTypes := #[]
  staticTypes := #[]
  resolved := Array.replicate 32 none
  statics := none }

def pool2 : Array CpInfo := pool [(2, .class_ 4), (1, u "java/lang/Object"), (0, u "<init>"), (0, u "()V"), (32, .class_ 40), (0, u "HttpHead"), (2, u "end"), (0, u "([BI)I")] 4

def k2m0 : Method := { name := "<init>", desc := "()V", sig := { parameters := [], returnType := none }, accessFlags := 2, code := none }
def k2c1 : Code := { maxStack := 3, maxLocals := 3, code := prog_1_method_2_code, exceptionTable := #[], attributes := #[] }
def k2m1 : Method := { name := "end", desc := "([BI)I", sig := { parameters := [(.array .byte), .int], returnType := some .int }, accessFlags := 8, code := some k2c1 }
/-- HttpHead -/
def k2 : Class := { plain "HttpHead" (some 0) with
  accessFlags := 48
  interfaces := #[]
  cf := some (fileOf pool2 39 #[] #[{ accessFlags := 2, nameIndex := 5, descriptorIndex := 6, attributes := #[] }, { accessFlags := 8, nameIndex := 43, descriptorIndex := 44, attributes := #[] }] 48 2 #[] #[])
  fields := #[]
  methods := #[k2m0, k2m1]
  instanceTypes := #[]
  staticTypes := #[]
  resolved := Array.replicate 49 none
  statics := none }

def pool3 : Array CpInfo := pool [(1, u "java/lang/Cloneable"), (0, .class_ 1), (0, u "java/lang/Object"), (0, .class_ 3)] 3

/-- java/lang/Cloneable -/
def k3 : Class := { plain "java/lang/Cloneable" (some 0) with
  accessFlags := 1537
  interfaces := #[]
  cf := some (fileOf pool3 2 #[] #[] 1537 4 #[] #[])
  fields := #[]
  methods := #[]
  instanceTypes := #[]
  staticTypes := #[]
  resolved := Array.replicate 8 none
  statics := none }

def pool4 : Array CpInfo := pool [(1, u "java/io/Serializable"), (0, .class_ 1), (0, u "java/lang/Object"), (0, .class_ 3)] 3

/-- java/io/Serializable -/
def k4 : Class := { plain "java/io/Serializable" (some 0) with
  accessFlags := 1537
  interfaces := #[]
  cf := some (fileOf pool4 2 #[] #[] 1537 4 #[] #[])
  fields := #[]
  methods := #[]
  instanceTypes := #[]
  staticTypes := #[]
  resolved := Array.replicate 8 none
  statics := none }

/-- the primitive byte -/
def k5 : Class := { plain "byte" none with kind := .primitive 'B', accessFlags := 0x411 }
/-- [B -/
def k6 : Class := { plain "[B" (some 0) with kind := .array 5 .byte, interfaces := #[3, 4], accessFlags := 1041 }

/-- the primitive int -/
def k7 : Class := { plain "int" none with kind := .primitive 'I', accessFlags := 0x411 }
/-- [I -/
def k8 : Class := { plain "[I" (some 0) with kind := .array 7 .int, interfaces := #[3, 4], accessFlags := 1041 }

def heap : Heap := #[]
def classes : Array Class := #[k0, k1, k2, k3, k4, k5, k6, k7, k8]
def interned : List (Array UInt16 × Addr) := []
def slotsUsed : Nat := 0
def theMethod : MethodId := ⟨1, 3⟩
def args0 : Array Value := #[.int 5, .long 5, .int 3]
def aboutOver (below : List Frame) : State where
  vm := { classes := classes, interned := interned.toArray }
  heap := heap
  slotsUsed := slotsUsed
  threads := #[{ frames := .invoking theMethod args0 :: below }]
def below0 : List Frame := [.native { method := ⟨0, 0⟩, args := #[] }]
def about1 : State := aboutOver below0
def p0 : Program := .bare "" "" ""
def e0 : Env := launch0.env 0 0 0
theorem w_frames : about1.frames = Frame.invoking theMethod args0 :: below0 := rfl
set_option maxRecDepth 65536 in
theorem w_args : argsFit about1.vm theMethod args0 = true := by decide +kernel
set_option maxRecDepth 65536 in
theorem w_heap : heapFits about1 = true := by decide +kernel
set_option maxRecDepth 65536 in
theorem w_runnable : about1.curStatus? = some .runnable := by decide +kernel
set_option maxRecDepth 65536 in
theorem w_alone : about1.alone = true := by decide +kernel
set_option maxRecDepth 65536 in
theorem w_named : about1.methodNamed? x = some theMethod := by decide +kernel
set_option maxRecDepth 65536 in
theorem w_hears : about1.hears theMethod below0 = true := by decide +kernel
set_option maxRecDepth 65536 in
theorem w_ripe : about1.ripe theMethod args0 below0 = true := by decide +kernel
theorem w_running : about1.status = .running := rfl
set_option maxRecDepth 65536 in
theorem w_room : about1.hasRoom e0.platform room_1 = true :=
  launch0.hasRoom_least _ room_1 (by decide +kernel) (by decide +kernel) (by decide +kernel) (by decide +kernel) (by decide +kernel) (by decide +kernel)
theorem allAtoms_all (ts : List Jvm.Cond) (a : Array Jvm.Value) (st : Jvm.State) : (allAtoms ts).before a st = ts.all (fun c => c.before a st) := by
  induction ts with
  | nil => rfl
  | cons c t ih =>
    show (Jvm.Cond.and c (allAtoms t)).before a st = _
    rw [Jvm.Cond.before_and, ih, List.all_cons]
def words1 : List Jvm.Cond := Jvm.Cond.code x code maxLocals ret :: tables_1
/-- a 'code' word, met by the world's own term for the bytes: nothing is compared byte by byte -/
theorem code_word {y : MethodName} {bytes : ByteArray} {mx : Nat} {rt : Option FieldType} {a : Array Value} {s : State} {m : MethodId} {meth : Method} {c : Code} (h1 : s.methodNamed? y = some m) (h2 : s.vm.method? m = some meth) (h3 : meth.code = some c) (h4 : c.code = bytes)
    (h5 : (c.maxLocals == mx && c.exceptionTable.isEmpty && decide (c.maxStack ≤ mostOperands) && decide (meth.sig.returnType = rt) && !meth.locks && decide (parseMethodDescriptor y.desc = some meth.sig)) = true) : (Jvm.Cond.code y bytes mx rt).before a s = true := by
  simp only [Bool.and_eq_true, beq_iff_eq, Bool.not_eq_true', decide_eq_true_eq] at h5
  obtain ⟨⟨⟨⟨⟨g1, g2⟩, g3⟩, g4⟩, g5⟩, g6⟩ := h5
  simp [Cond.before, Cond.holds, Cond.value, h1, h2, h3, h4, g1, g2, g3, g4, g5, g6]
def isCode : Jvm.Cond → Bool
  | .code _ _ _ _ => true
  | _ => false
theorem all_split {L : List Jvm.Cond} {P : Jvm.Cond → Bool} (h1 : L.all (fun c => isCode c || P c) = true) (h2 : ∀ c ∈ L.filter isCode, P c = true) : L.all P = true := by
  refine List.all_eq_true.mpr fun c hc => ?_
  have h := List.all_eq_true.mp h1 c hc
  rcases Bool.eq_false_or_eq_true (isCode c) with hi | hi
  · exact h2 c (List.mem_filter.mpr ⟨hc, hi⟩)
  · simpa [hi] using h
set_option maxRecDepth 65536 in
theorem w_c0 : (Jvm.Cond.code x code maxLocals ret).before args0 about1 = true := code_word (m := ⟨1, 3⟩) (meth := k1m3) (c := k1c3) (by decide +kernel) rfl rfl rfl (by decide +kernel)
set_option maxRecDepth 65536 in
theorem w_c1 : (Jvm.Cond.code ({ cls := "HttpHeadEndPinLaw", name := "pick", desc := "(IJI)B" } : Jvm.MethodName) method_2_code (5 : Nat) (Option.some Jvm.ClassFile.FieldType.byte)).before args0 about1 = true := code_word (m := ⟨1, 1⟩) (meth := k1m1) (c := k1c1) (by decide +kernel) rfl rfl rfl (by decide +kernel)
set_option maxRecDepth 65536 in
theorem w_c2 : (Jvm.Cond.code ({ cls := "HttpHeadEndPinLaw", name := "blankLineEndsAt", desc := "([BII)Z" } : Jvm.MethodName) method_3_code (3 : Nat) (Option.some Jvm.ClassFile.FieldType.boolean)).before args0 about1 = true := code_word (m := ⟨1, 2⟩) (meth := k1m2) (c := k1c2) (by decide +kernel) rfl rfl rfl (by decide +kernel)
set_option maxRecDepth 65536 in
theorem w_c3 : (Jvm.Cond.code ({ cls := "HttpHead", name := "end", desc := "([BI)I" } : Jvm.MethodName) prog_1_method_2_code (3 : Nat) (Option.some Jvm.ClassFile.FieldType.int)).before args0 about1 = true := code_word (m := ⟨2, 1⟩) (meth := k2m1) (c := k2c1) (by decide +kernel) rfl rfl rfl (by decide +kernel)
def codes1 : List Jvm.Cond := [Jvm.Cond.code x code maxLocals ret, Jvm.Cond.code ({ cls := "HttpHeadEndPinLaw", name := "pick", desc := "(IJI)B" } : Jvm.MethodName) method_2_code (5 : Nat) (Option.some Jvm.ClassFile.FieldType.byte), Jvm.Cond.code ({ cls := "HttpHeadEndPinLaw", name := "blankLineEndsAt", desc := "([BII)Z" } : Jvm.MethodName) method_3_code (3 : Nat) (Option.some Jvm.ClassFile.FieldType.boolean), Jvm.Cond.code ({ cls := "HttpHead", name := "end", desc := "([BI)I" } : Jvm.MethodName) prog_1_method_2_code (3 : Nat) (Option.some Jvm.ClassFile.FieldType.int)]
set_option maxRecDepth 65536 in
theorem codes_eq : words1.filter isCode = codes1 := rfl
theorem w_codes : ∀ c ∈ words1.filter isCode, c.before args0 about1 = true := by
  rw [codes_eq]
  intro c hc
  simp only [codes1, List.mem_cons, List.not_mem_nil, or_false] at hc
  rcases hc with rfl | rfl | rfl | rfl
  · exact w_c0
  · exact w_c1
  · exact w_c2
  · exact w_c3
set_option maxRecDepth 65536 in
theorem w_t1 : words1.all (fun c => isCode c || c.before args0 about1) = true := by decide +kernel
theorem w_tables : (allAtoms (Jvm.Cond.code x code maxLocals ret :: tables_1)).before args0 about1 = true := by
  rw [allAtoms_all]
  show words1.all (fun c => c.before args0 about1) = true
  refine all_split ?_ w_codes
  rw [w_t1]
set_option maxRecDepth 65536 in
theorem w_case : (Jvm.Cond.and given_1 narrow_1).before args0 about1 = true := by decide +kernel
theorem w_applies : (headSpec (Jvm.Cond.code x code maxLocals ret :: tables_1) room_1).applies x e0.platform about1 = true :=
  (Spec.applies_iff w_frames).mpr ⟨w_running, w_runnable, w_alone, w_named, w_hears, w_ripe, w_room, w_tables⟩
theorem atStart : AtStart classFile x code maxLocals ret World_1 tables_1 room_1 Calls_1 rest_1 Pre_1 launch0 p0 e0 about1 theMethod args0 below0 :=
  ⟨lists_1, trivial, launch0.admits_env _ _ _, launch0.least_env, fairChoices_fair.cas, fairChoices_fair.clock, w_frames, w_args, w_heap, w_applies, trivial, trivial, w_case⟩
end start1
theorem witness_1 : WitnessClaimed_1 := ⟨start1.p0, start1.e0, start1.about1, start1.theMethod, start1.args0, start1.below0, start1.atStart⟩
end Jvm.Pilot.@@N@@
