import JvmDerived
import JvmDerived.Pilot.@@N@@Statement
import JvmDerived.Pilot.@@N@@Code
set_option linter.unusedVariables false
set_option linter.unusedSimpArgs false
namespace Jvm.Pilot.@@N@@
open Jvm Jvm.ClassFile Sem Op Lib Jvm.Free Jvm.Stand Jvm.LawKit Jvm.RoadKit Bundle Jvm.Pilot.@@N@@.Jvm.D
def own_Go (tb : Tables) (e : Env) (below : List Frame) (P : State → Outcome → Prop) (A : State) : Prop := ∃ s₂ o, Steps tb e below A s₂ ∧ P s₂ o
theorem own_in {tb : Tables} {e : Env} {below : List Frame} {P : State → Outcome → Prop} {A : State} (h : own_Go tb e below P A) : ∃ s₂ o, Steps tb e below A s₂ ∧ P s₂ o := h
theorem own_st {tb : Tables} {e : Env} {below : List Frame} {P : State → Outcome → Prop} {A B : State} (h : ∀ t, Steps tb e below B t → Steps tb e below A t) (k : own_Go tb e below P B) : own_Go tb e below P A := by
  obtain ⟨s₂, o, h1, h2⟩ := k
  exact ⟨s₂, o, h _ h1, h2⟩
theorem own_tr {tb : Tables} {e : Env} {below : List Frame} {P : State → Outcome → Prop} {A B : State} (h : Steps tb e below A B) (k : own_Go tb e below P B) : own_Go tb e below P A := by
  obtain ⟨s₂, o, h1, h2⟩ := k
  exact ⟨s₂, o, h.trans h1, h2⟩
theorem own_out {tb : Tables} {e : Env} {below : List Frame} {P : State → Outcome → Prop} {A B : State} {o : Outcome} (h : Steps tb e below A B) (k : P B o) : own_Go tb e below P A := ⟨B, o, h, k⟩
theorem own_join {ι : Type} {tb : Tables} {e : Env} {below : List Frame} {P : State → Outcome → Prop} {A : State} (B : ι → State) (K : ι → Prop) (hJ : ∀ b, K b → own_Go tb e below P (B b)) (h : (∀ b, K b → own_Go tb e below P (B b)) → own_Go tb e below P A) : own_Go tb e below P A := h hJ
theorem own_cast {tb : Tables} {e : Env} {below : List Frame} {P : State → Outcome → Prop} {A B : State} (q : A = B) (k : own_Go tb e below P B) : own_Go tb e below P A := q ▸ k
section Own
variable {p : Program} {l : Launch} {e : Env} {R : Room} {s : State} {m : MethodId} {args : Array Value} {below : List Frame} {meth : Method} {c : Code} {T : State} {locs : List Loc} {cells slots : Nat}
theorem own_retI (X : Stand p l e R s m args below meth c T locs cells slots) (hx : p.tables.exec = Jvm.exec) {pc : Nat} {Ls : Array Slot} {z : Int32} {rest : List Value} (hret : meth.sig.returnType = some .int) (hd : decode c.code pc = .ok (.ireturn, 1)) {fs : List Frame}
    (hl : ∀ (f : JFrame) (acts : List Action), f.method = m → f.locked = none → f.entered = [] → (doReturn e (T.setTop f) acts (some (.int z))).1 = T.setFrames fs) : Steps p.tables e below (T.setTop (mkF m pc Ls (.int z :: rest))) (T.setFrames fs) := by
  have hm' : T.vm.method? m = some meth := X.method'
  have hn : narrow .int (.int z) = .int z := rfl
  show Steps p.tables e below (T.setTop { method := m, pc := pc, locals := Ls, stack := _ :: rest, locked := none }) _
  jvm_step X.here [X.here.top, hx, hd, hm', hret, hn]
  first | (intro acts; rw [hl _ acts rfl rfl rfl]) | rw [hl _ _ rfl rfl rfl]
  exact Steps.refl _
end Own
theorem own_sel {s : State} {args : Array Value} {C : String} {r y : MethodName} (hy0 : y.cls = r.cls) (h : (Cond.selects C r r).before args s = true) (hp : s.PrivateAt y) (hi : (Cond.instanceMethod y).before args s = true) (hy : y.cls ≠ "java/lang/invoke/MethodHandle" ∧ y.cls ≠ "java/lang/invoke/VarHandle") : (Cond.selects y.cls y y).before args s = true := by
  obtain ⟨c2, r2, m2, -, -, q3, -, kP, hkP, hkPi⟩ := Cond.selects_spec h
  exact selects_self_of_private (hy0 ▸ findClass_of_methodNamed q3) hkP hkPi hp hi hy
def own_upd (f : Nat → Int64) (i : Nat) (v : Int64) : Nat → Int64 := fun j => if j = i then v else f j
def own_vs (f : Nat → Int64) : List Value := (List.range 16).map fun j => Value.long (f j)
def own_z : Nat → Int64 := fun _ => 0
theorem own_vs_len (f : Nat → Int64) : (own_vs f).length = 16 := by simp [own_vs]
theorem own_vs_get (f : Nat → Int64) (i : Nat) (h : i < 16) : (own_vs f).getD i (.long (0 : Int64)) = .long (f i) := by
  simp [own_vs, List.getD_eq_getElem?_getD, h]
theorem own_vs_set (f : Nat → Int64) (i : Nat) (v : Int64) (h : i < 16) : (own_vs f).set i (.long v) = own_vs (own_upd f i v) := by
  apply List.ext_getElem?
  intro j
  unfold own_vs own_upd
  by_cases hj : j = i
  · subst hj
    simp [h]
  · by_cases h16 : j < 16
    · simp [List.getElem?_set, h16, hj, Ne.symm hj]
    · simp [List.getElem?_set, h16, hj, Ne.symm hj]
theorem own_ofN (i : Nat) (h : i < 16) : (Int32.ofNat i).toNatClampNeg = i ∧ ¬ Int32.ofNat i < (0 : Int32) ∧ Int32.ofNat i < (16 : Int32) := (by decide +kernel : ∀ i, i < 16 → (Int32.ofNat i).toNatClampNeg = i ∧ ¬ Int32.ofNat i < (0 : Int32) ∧ Int32.ofNat i < (16 : Int32)) i h
theorem own_nxt (i : Nat) (h : i < 16) : ((Int32.ofNat i) + (1 : Int32)) &&& (15 : Int32) = Int32.ofNat ((i + 1) % 16) := (by decide +kernel : ∀ i, i < 16 → ((Int32.ofNat i) + (1 : Int32)) &&& (15 : Int32) = Int32.ofNat ((i + 1) % 16)) i h
theorem own_dif (i j : Nat) (h : i < 16) (g : j < 16) : ((Int32.ofNat i) - (Int32.ofNat j)) &&& (15 : Int32) = Int32.ofNat ((i + 16 - j) % 16) := (by decide +kernel : ∀ i, i < 16 → ∀ j, j < 16 → ((Int32.ofNat i) - (Int32.ofNat j)) &&& (15 : Int32) = Int32.ofNat ((i + 16 - j) % 16)) i h j g
theorem own_ltN (i j : Nat) (h : i < 16) (g : j < 16) : Int32.ofNat i < Int32.ofNat j ↔ i < j := (by decide +kernel : ∀ i, i < 16 → ∀ j, j < 16 → (Int32.ofNat i < Int32.ofNat j ↔ i < j)) i h j g
theorem own_m16 (i : Nat) : i % 16 < 16 := Nat.mod_lt _ (by decide)
def own_ho (k : Int64) : Int32 := (((k * (-7046029254386353131 : Int64)).toUInt64 >>> ((60 : Int32) &&& 0x3f).toInt64.toUInt64).toInt64).toInt32
def own_home (k : Int64) : Nat := (((k * (-7046029254386353131 : Int64)).toInt % 18446744073709551616) / 1152921504606846976).toNat
theorem own_hom16 (k : Int64) : own_home k < 16 := by unfold own_home; omega
theorem own_hoN (k : Int64) : own_ho k = Int32.ofNat (own_home k) := by
  have h16 := own_hom16 k
  apply Int32.toInt_inj.mp
  rw [Int32.toInt_ofNat_small (by omega)]
  unfold own_ho
  have a := c_lushr (k * (-7046029254386353131 : Int64)) 60 60 (by decide) (by decide)
  have b := c_l2i (((k * (-7046029254386353131 : Int64)).toUInt64 >>> ((60 : Int32) &&& 0x3f).toInt64.toUInt64).toInt64)
  have r := rng32 ((((k * (-7046029254386353131 : Int64)).toUInt64 >>> ((60 : Int32) &&& 0x3f).toInt64.toUInt64).toInt64).toInt32)
  unfold own_home at h16 ⊢
  generalize (k * (-7046029254386353131 : Int64)).toInt = q at *
  omega
def own_find (K W : Nat → Int64) (key : Int64) : Nat → Nat → Option Nat
  | 0, _ => none
  | f + 1, i => if W i = 0 then some i else if K i = key then some i else own_find K W key f ((i + 1) % 16)
def own_rml : Nat → (Nat → Int64) → (Nat → Int64) → Nat → Nat → Option ((Nat → Int64) × (Nat → Int64))
  | 0, _, _, _, _ => none
  | f + 1, K, W, i, j => if W j = 0 then some (K, W) else if (j + 16 - own_home (K j)) % 16 < (j + 16 - i) % 16 then own_rml f K W i ((j + 1) % 16) else own_rml f (own_upd K i (K j)) (own_upd (own_upd W i (W j)) j 0) j ((j + 1) % 16)
theorem own_find_lt (K W : Nat → Int64) (key : Int64) : ∀ (f i j : Nat), i < 16 → own_find K W key f i = some j → j < 16 := by
  intro f
  induction f with
  | zero => intro i j hi h; simp [own_find] at h
  | succ f ih =>
    intro i j hi h
    unfold own_find at h
    split at h
    · cases h; exact hi
    · split at h
      · cases h; exact hi
      · exact ih _ _ (own_m16 _) h
def own_inv (u0 : Int64) : Int64 := (((((u0 * ((2 : Int64) - (u0 * u0))) * ((2 : Int64) - (u0 * (u0 * ((2 : Int64) - (u0 * u0)))))) * ((2 : Int64) - (u0 * ((u0 * ((2 : Int64) - (u0 * u0))) * ((2 : Int64) - (u0 * (u0 * ((2 : Int64) - (u0 * u0))))))))) * ((2 : Int64) - (u0 * (((u0 * ((2 : Int64) - (u0 * u0))) * ((2 : Int64) - (u0 * (u0 * ((2 : Int64) - (u0 * u0)))))) * ((2 : Int64) - (u0 * ((u0 * ((2 : Int64) - (u0 * u0))) * ((2 : Int64) - (u0 * (u0 * ((2 : Int64) - (u0 * u0)))))))))))) * ((2 : Int64) - (u0 * ((((u0 * ((2 : Int64) - (u0 * u0))) * ((2 : Int64) - (u0 * (u0 * ((2 : Int64) - (u0 * u0)))))) * ((2 : Int64) - (u0 * ((u0 * ((2 : Int64) - (u0 * u0))) * ((2 : Int64) - (u0 * (u0 * ((2 : Int64) - (u0 * u0))))))))) * ((2 : Int64) - (u0 * (((u0 * ((2 : Int64) - (u0 * u0))) * ((2 : Int64) - (u0 * (u0 * ((2 : Int64) - (u0 * u0)))))) * ((2 : Int64) - (u0 * ((u0 * ((2 : Int64) - (u0 * u0))) * ((2 : Int64) - (u0 * (u0 * ((2 : Int64) - (u0 * u0)))))))))))))))
theorem d1_0 : decode method_2_code 0 = .ok (.lload_n 0, 1) := by decide +kernel
theorem d1_1 : decode method_2_code 1 = .ok (.lstore_n 2, 1) := by decide +kernel
theorem d1_2 : decode method_2_code 2 = .ok (.lload_n 2, 1) := by decide +kernel
theorem d1_3 : decode method_2_code 3 = .ok (.ldc2_w 7, 3) := by decide +kernel
theorem d1_6 : decode method_2_code 6 = .ok (.lload_n 0, 1) := by decide +kernel
theorem d1_7 : decode method_2_code 7 = .ok (.lload_n 2, 1) := by decide +kernel
theorem d1_8 : decode method_2_code 8 = .ok (.lmul, 1) := by decide +kernel
theorem d1_9 : decode method_2_code 9 = .ok (.lsub, 1) := by decide +kernel
theorem d1_10 : decode method_2_code 10 = .ok (.lmul, 1) := by decide +kernel
theorem d1_11 : decode method_2_code 11 = .ok (.lstore_n 2, 1) := by decide +kernel
theorem d1_12 : decode method_2_code 12 = .ok (.lload_n 2, 1) := by decide +kernel
theorem d1_13 : decode method_2_code 13 = .ok (.ldc2_w 7, 3) := by decide +kernel
theorem d1_16 : decode method_2_code 16 = .ok (.lload_n 0, 1) := by decide +kernel
theorem d1_17 : decode method_2_code 17 = .ok (.lload_n 2, 1) := by decide +kernel
theorem d1_18 : decode method_2_code 18 = .ok (.lmul, 1) := by decide +kernel
theorem d1_19 : decode method_2_code 19 = .ok (.lsub, 1) := by decide +kernel
theorem d1_20 : decode method_2_code 20 = .ok (.lmul, 1) := by decide +kernel
theorem d1_21 : decode method_2_code 21 = .ok (.lstore_n 2, 1) := by decide +kernel
theorem d1_22 : decode method_2_code 22 = .ok (.lload_n 2, 1) := by decide +kernel
theorem d1_23 : decode method_2_code 23 = .ok (.ldc2_w 7, 3) := by decide +kernel
theorem d1_26 : decode method_2_code 26 = .ok (.lload_n 0, 1) := by decide +kernel
theorem d1_27 : decode method_2_code 27 = .ok (.lload_n 2, 1) := by decide +kernel
theorem d1_28 : decode method_2_code 28 = .ok (.lmul, 1) := by decide +kernel
theorem d1_29 : decode method_2_code 29 = .ok (.lsub, 1) := by decide +kernel
theorem d1_30 : decode method_2_code 30 = .ok (.lmul, 1) := by decide +kernel
theorem d1_31 : decode method_2_code 31 = .ok (.lstore_n 2, 1) := by decide +kernel
theorem d1_32 : decode method_2_code 32 = .ok (.lload_n 2, 1) := by decide +kernel
theorem d1_33 : decode method_2_code 33 = .ok (.ldc2_w 7, 3) := by decide +kernel
theorem d1_36 : decode method_2_code 36 = .ok (.lload_n 0, 1) := by decide +kernel
theorem d1_37 : decode method_2_code 37 = .ok (.lload_n 2, 1) := by decide +kernel
theorem d1_38 : decode method_2_code 38 = .ok (.lmul, 1) := by decide +kernel
theorem d1_39 : decode method_2_code 39 = .ok (.lsub, 1) := by decide +kernel
theorem d1_40 : decode method_2_code 40 = .ok (.lmul, 1) := by decide +kernel
theorem d1_41 : decode method_2_code 41 = .ok (.lstore_n 2, 1) := by decide +kernel
theorem d1_42 : decode method_2_code 42 = .ok (.lload_n 2, 1) := by decide +kernel
theorem d1_43 : decode method_2_code 43 = .ok (.ldc2_w 7, 3) := by decide +kernel
theorem d1_46 : decode method_2_code 46 = .ok (.lload_n 0, 1) := by decide +kernel
theorem d1_47 : decode method_2_code 47 = .ok (.lload_n 2, 1) := by decide +kernel
theorem d1_48 : decode method_2_code 48 = .ok (.lmul, 1) := by decide +kernel
theorem d1_49 : decode method_2_code 49 = .ok (.lsub, 1) := by decide +kernel
theorem d1_50 : decode method_2_code 50 = .ok (.lmul, 1) := by decide +kernel
theorem d1_51 : decode method_2_code 51 = .ok (.lstore_n 2, 1) := by decide +kernel
theorem d1_52 : decode method_2_code 52 = .ok (.lload_n 2, 1) := by decide +kernel
theorem d1_53 : decode method_2_code 53 = .ok (.lreturn, 1) := by decide +kernel
theorem own_pd0 : parseMethodDescriptor "(J)J" = some ⟨[.long], some .long⟩ := by decide +kernel
theorem own_pn0 : plainName "quillvax/store/LongMapRemovePinLaw" = true := by first | (simp [plainName, overriddenIn]; done) | decide +kernel
def Q1 (Z : State) (u0 : Int64) (h0 : Heap) (n0 : Nat) (v : Option Value) (h : Heap) (L : List Loc) : Prop := v = some (.long (own_inv u0)) ∧ Fr n0 L ∧ h = h0
theorem ef_1 (m : MethodId) (x0 : Int64) : entryFrame m #[(.long x0)] 4 = mkF m 0 #[.val (.long x0), .second, .unset, .unset] [] := by first | (simp [entryFrame, mkF, argsToLocals, Value.category]; done) | rfl
set_option maxRecDepth 65536 in
set_option maxHeartbeats 40000000 in
theorem rm1 (l : Launch) (Z : State) (a0 : Array Value) (hw : ∀ d ∈ tables_1, d.before a0 Z = true) (ws : List Jvm.Cond) (u0 : Int64) (h0 : Heap) (n0 : Nat) (Z0 : n0 ≤ h0.size)  :
    MetFree l (⟨"quillvax/store/LongMapRemovePinLaw", "inverse", "(J)J"⟩ : MethodName) (head1 (Jvm.Cond.code (⟨"quillvax/store/LongMapRemovePinLaw", "inverse", "(J)J"⟩ : MethodName) method_2_code 4 (some .long) :: ws) ({ frames := 0, cells := 0, slots := 0, locals := 0 } : Room)) (fun a U => a = #[(.long u0)] ∧ Z.Warmed39 U.vm ∧ U.heap = h0) (fun _ _ _ _ _ => True) (fun _ U o U' => ∃ v L, o = .returned v ∧ Q1 Z u0 h0 n0 v U'.heap L ∧ FrameEnd U o U' L ({ frames := 0, cells := 0, slots := 0, locals := 0 } : Room).cells ({ frames := 0, cells := 0, slots := 0, locals := 0 } : Room).slots) := by
  refine MetFree.of_bodySF (plainFor_of_name own_pn0) hisR ?_
  intro p e s m args below meth c s₁ Bd hml0 hP hK
  obtain ⟨rfl, hZ, hh⟩ := hP
  have hx := Bd.exec
  have hby := Bd.bytes
  have hml : c.maxLocals = 4 := hml0
  have hown : s.vm.findClass "quillvax/store/LongMapRemovePinLaw" = some m.cls := findClass_of_methodNamed Bd.named
  have hnm := (name_of_methodNamed Bd.named Bd.method).1
  have X0 : Stand p l e ({ frames := 0, cells := 0, slots := 0, locals := 0 } : Room) s m #[(.long u0)] below meth c s₁ [] 0 0 := Stand.of_body Bd
  have e0 : s₁.heap = h0 := by rw [← hh, Bd.state]; rfl
  have N0 := Fr.nil n0
  refine own_in ?_
  refine own_st (fun _ k => castTop (ef_1 m u0) k) ?_
  have K0 : Keep h0 h0 [] := Keep.refl h0 []
  show own_Go _ _ _ _ (s₁.setTop (mkF m 0 #[.val (.long u0), .second, .unset, .unset] []))
  refine own_st (fun _ k => XS.lloadN X0.here hx rfl (hb hby d1_0) rfl k) ?_
  show own_Go _ _ _ _ (s₁.setTop (mkF m 1 #[.val (.long u0), .second, .unset, .unset] [(.long u0)]))
  refine own_st (fun _ k => XS.lstoreN X0.here hx rfl (hb hby d1_1) rfl (l' := #[.val (.long u0), .second, .val (.long u0), .second]) rfl k) ?_
  show own_Go _ _ _ _ (s₁.setTop (mkF m 2 #[.val (.long u0), .second, .val (.long u0), .second] []))
  refine own_st (fun _ k => XS.lloadN X0.here hx rfl (hb hby d1_2) rfl k) ?_
  show own_Go _ _ _ _ (s₁.setTop (mkF m 3 #[.val (.long u0), .second, .val (.long u0), .second] [(.long u0)]))
  refine own_st (fun _ k => X0.ldc2Long hx hown (mvT hZ (hw _ (List.mem_of_getElem? (i := 5) rfl))) (g := (mkF m 3 #[.val (.long u0), .second, .val (.long u0), .second] [(.long u0)])) rfl (hb hby d1_3) _ k) ?_
  show own_Go _ _ _ _ (s₁.setTop (mkF m 6 #[.val (.long u0), .second, .val (.long u0), .second] [(.long (2 : Int64)), (.long u0)]))
  refine own_st (fun _ k => XS.lloadN X0.here hx rfl (hb hby d1_6) rfl k) ?_
  show own_Go _ _ _ _ (s₁.setTop (mkF m 7 #[.val (.long u0), .second, .val (.long u0), .second] [(.long u0), (.long (2 : Int64)), (.long u0)]))
  refine own_st (fun _ k => XS.lloadN X0.here hx rfl (hb hby d1_7) rfl k) ?_
  show own_Go _ _ _ _ (s₁.setTop (mkF m 8 #[.val (.long u0), .second, .val (.long u0), .second] [(.long u0), (.long u0), (.long (2 : Int64)), (.long u0)]))
  refine own_st (fun _ k => XS.lmul X0.here hx rfl (hb hby d1_8) rfl k) ?_
  show own_Go _ _ _ _ (s₁.setTop (mkF m 9 #[.val (.long u0), .second, .val (.long u0), .second] [(.long (u0 * u0)), (.long (2 : Int64)), (.long u0)]))
  refine own_st (fun _ k => XS.lsub X0.here hx rfl (hb hby d1_9) rfl k) ?_
  show own_Go _ _ _ _ (s₁.setTop (mkF m 10 #[.val (.long u0), .second, .val (.long u0), .second] [(.long ((2 : Int64) - (u0 * u0))), (.long u0)]))
  refine own_st (fun _ k => XS.lmul X0.here hx rfl (hb hby d1_10) rfl k) ?_
  show own_Go _ _ _ _ (s₁.setTop (mkF m 11 #[.val (.long u0), .second, .val (.long u0), .second] [(.long (u0 * ((2 : Int64) - (u0 * u0))))]))
  refine own_st (fun _ k => XS.lstoreN X0.here hx rfl (hb hby d1_11) rfl (l' := #[.val (.long u0), .second, .val (.long (u0 * ((2 : Int64) - (u0 * u0)))), .second]) rfl k) ?_
  show own_Go _ _ _ _ (s₁.setTop (mkF m 12 #[.val (.long u0), .second, .val (.long (u0 * ((2 : Int64) - (u0 * u0)))), .second] []))
  refine own_st (fun _ k => XS.lloadN X0.here hx rfl (hb hby d1_12) rfl k) ?_
  show own_Go _ _ _ _ (s₁.setTop (mkF m 13 #[.val (.long u0), .second, .val (.long (u0 * ((2 : Int64) - (u0 * u0)))), .second] [(.long (u0 * ((2 : Int64) - (u0 * u0))))]))
  refine own_st (fun _ k => X0.ldc2Long hx hown (mvT hZ (hw _ (List.mem_of_getElem? (i := 5) rfl))) (g := (mkF m 13 #[.val (.long u0), .second, .val (.long (u0 * ((2 : Int64) - (u0 * u0)))), .second] [(.long (u0 * ((2 : Int64) - (u0 * u0))))])) rfl (hb hby d1_13) _ k) ?_
  show own_Go _ _ _ _ (s₁.setTop (mkF m 16 #[.val (.long u0), .second, .val (.long (u0 * ((2 : Int64) - (u0 * u0)))), .second] [(.long (2 : Int64)), (.long (u0 * ((2 : Int64) - (u0 * u0))))]))
  refine own_st (fun _ k => XS.lloadN X0.here hx rfl (hb hby d1_16) rfl k) ?_
  show own_Go _ _ _ _ (s₁.setTop (mkF m 17 #[.val (.long u0), .second, .val (.long (u0 * ((2 : Int64) - (u0 * u0)))), .second] [(.long u0), (.long (2 : Int64)), (.long (u0 * ((2 : Int64) - (u0 * u0))))]))
  refine own_st (fun _ k => XS.lloadN X0.here hx rfl (hb hby d1_17) rfl k) ?_
  show own_Go _ _ _ _ (s₁.setTop (mkF m 18 #[.val (.long u0), .second, .val (.long (u0 * ((2 : Int64) - (u0 * u0)))), .second] [(.long (u0 * ((2 : Int64) - (u0 * u0)))), (.long u0), (.long (2 : Int64)), (.long (u0 * ((2 : Int64) - (u0 * u0))))]))
  refine own_st (fun _ k => XS.lmul X0.here hx rfl (hb hby d1_18) rfl k) ?_
  show own_Go _ _ _ _ (s₁.setTop (mkF m 19 #[.val (.long u0), .second, .val (.long (u0 * ((2 : Int64) - (u0 * u0)))), .second] [(.long (u0 * (u0 * ((2 : Int64) - (u0 * u0))))), (.long (2 : Int64)), (.long (u0 * ((2 : Int64) - (u0 * u0))))]))
  refine own_st (fun _ k => XS.lsub X0.here hx rfl (hb hby d1_19) rfl k) ?_
  show own_Go _ _ _ _ (s₁.setTop (mkF m 20 #[.val (.long u0), .second, .val (.long (u0 * ((2 : Int64) - (u0 * u0)))), .second] [(.long ((2 : Int64) - (u0 * (u0 * ((2 : Int64) - (u0 * u0)))))), (.long (u0 * ((2 : Int64) - (u0 * u0))))]))
  refine own_st (fun _ k => XS.lmul X0.here hx rfl (hb hby d1_20) rfl k) ?_
  show own_Go _ _ _ _ (s₁.setTop (mkF m 21 #[.val (.long u0), .second, .val (.long (u0 * ((2 : Int64) - (u0 * u0)))), .second] [(.long ((u0 * ((2 : Int64) - (u0 * u0))) * ((2 : Int64) - (u0 * (u0 * ((2 : Int64) - (u0 * u0)))))))]))
  refine own_st (fun _ k => XS.lstoreN X0.here hx rfl (hb hby d1_21) rfl (l' := #[.val (.long u0), .second, .val (.long ((u0 * ((2 : Int64) - (u0 * u0))) * ((2 : Int64) - (u0 * (u0 * ((2 : Int64) - (u0 * u0))))))), .second]) rfl k) ?_
  show own_Go _ _ _ _ (s₁.setTop (mkF m 22 #[.val (.long u0), .second, .val (.long ((u0 * ((2 : Int64) - (u0 * u0))) * ((2 : Int64) - (u0 * (u0 * ((2 : Int64) - (u0 * u0))))))), .second] []))
  refine own_st (fun _ k => XS.lloadN X0.here hx rfl (hb hby d1_22) rfl k) ?_
  show own_Go _ _ _ _ (s₁.setTop (mkF m 23 #[.val (.long u0), .second, .val (.long ((u0 * ((2 : Int64) - (u0 * u0))) * ((2 : Int64) - (u0 * (u0 * ((2 : Int64) - (u0 * u0))))))), .second] [(.long ((u0 * ((2 : Int64) - (u0 * u0))) * ((2 : Int64) - (u0 * (u0 * ((2 : Int64) - (u0 * u0)))))))]))
  refine own_st (fun _ k => X0.ldc2Long hx hown (mvT hZ (hw _ (List.mem_of_getElem? (i := 5) rfl))) (g := (mkF m 23 #[.val (.long u0), .second, .val (.long ((u0 * ((2 : Int64) - (u0 * u0))) * ((2 : Int64) - (u0 * (u0 * ((2 : Int64) - (u0 * u0))))))), .second] [(.long ((u0 * ((2 : Int64) - (u0 * u0))) * ((2 : Int64) - (u0 * (u0 * ((2 : Int64) - (u0 * u0)))))))])) rfl (hb hby d1_23) _ k) ?_
  show own_Go _ _ _ _ (s₁.setTop (mkF m 26 #[.val (.long u0), .second, .val (.long ((u0 * ((2 : Int64) - (u0 * u0))) * ((2 : Int64) - (u0 * (u0 * ((2 : Int64) - (u0 * u0))))))), .second] [(.long (2 : Int64)), (.long ((u0 * ((2 : Int64) - (u0 * u0))) * ((2 : Int64) - (u0 * (u0 * ((2 : Int64) - (u0 * u0)))))))]))
  refine own_st (fun _ k => XS.lloadN X0.here hx rfl (hb hby d1_26) rfl k) ?_
  show own_Go _ _ _ _ (s₁.setTop (mkF m 27 #[.val (.long u0), .second, .val (.long ((u0 * ((2 : Int64) - (u0 * u0))) * ((2 : Int64) - (u0 * (u0 * ((2 : Int64) - (u0 * u0))))))), .second] [(.long u0), (.long (2 : Int64)), (.long ((u0 * ((2 : Int64) - (u0 * u0))) * ((2 : Int64) - (u0 * (u0 * ((2 : Int64) - (u0 * u0)))))))]))
  refine own_st (fun _ k => XS.lloadN X0.here hx rfl (hb hby d1_27) rfl k) ?_
  show own_Go _ _ _ _ (s₁.setTop (mkF m 28 #[.val (.long u0), .second, .val (.long ((u0 * ((2 : Int64) - (u0 * u0))) * ((2 : Int64) - (u0 * (u0 * ((2 : Int64) - (u0 * u0))))))), .second] [(.long ((u0 * ((2 : Int64) - (u0 * u0))) * ((2 : Int64) - (u0 * (u0 * ((2 : Int64) - (u0 * u0))))))), (.long u0), (.long (2 : Int64)), (.long ((u0 * ((2 : Int64) - (u0 * u0))) * ((2 : Int64) - (u0 * (u0 * ((2 : Int64) - (u0 * u0)))))))]))
  refine own_st (fun _ k => XS.lmul X0.here hx rfl (hb hby d1_28) rfl k) ?_
  show own_Go _ _ _ _ (s₁.setTop (mkF m 29 #[.val (.long u0), .second, .val (.long ((u0 * ((2 : Int64) - (u0 * u0))) * ((2 : Int64) - (u0 * (u0 * ((2 : Int64) - (u0 * u0))))))), .second] [(.long (u0 * ((u0 * ((2 : Int64) - (u0 * u0))) * ((2 : Int64) - (u0 * (u0 * ((2 : Int64) - (u0 * u0)))))))), (.long (2 : Int64)), (.long ((u0 * ((2 : Int64) - (u0 * u0))) * ((2 : Int64) - (u0 * (u0 * ((2 : Int64) - (u0 * u0)))))))]))
  refine own_st (fun _ k => XS.lsub X0.here hx rfl (hb hby d1_29) rfl k) ?_
  show own_Go _ _ _ _ (s₁.setTop (mkF m 30 #[.val (.long u0), .second, .val (.long ((u0 * ((2 : Int64) - (u0 * u0))) * ((2 : Int64) - (u0 * (u0 * ((2 : Int64) - (u0 * u0))))))), .second] [(.long ((2 : Int64) - (u0 * ((u0 * ((2 : Int64) - (u0 * u0))) * ((2 : Int64) - (u0 * (u0 * ((2 : Int64) - (u0 * u0))))))))), (.long ((u0 * ((2 : Int64) - (u0 * u0))) * ((2 : Int64) - (u0 * (u0 * ((2 : Int64) - (u0 * u0)))))))]))
  refine own_st (fun _ k => XS.lmul X0.here hx rfl (hb hby d1_30) rfl k) ?_
  show own_Go _ _ _ _ (s₁.setTop (mkF m 31 #[.val (.long u0), .second, .val (.long ((u0 * ((2 : Int64) - (u0 * u0))) * ((2 : Int64) - (u0 * (u0 * ((2 : Int64) - (u0 * u0))))))), .second] [(.long (((u0 * ((2 : Int64) - (u0 * u0))) * ((2 : Int64) - (u0 * (u0 * ((2 : Int64) - (u0 * u0)))))) * ((2 : Int64) - (u0 * ((u0 * ((2 : Int64) - (u0 * u0))) * ((2 : Int64) - (u0 * (u0 * ((2 : Int64) - (u0 * u0))))))))))]))
  refine own_st (fun _ k => XS.lstoreN X0.here hx rfl (hb hby d1_31) rfl (l' := #[.val (.long u0), .second, .val (.long (((u0 * ((2 : Int64) - (u0 * u0))) * ((2 : Int64) - (u0 * (u0 * ((2 : Int64) - (u0 * u0)))))) * ((2 : Int64) - (u0 * ((u0 * ((2 : Int64) - (u0 * u0))) * ((2 : Int64) - (u0 * (u0 * ((2 : Int64) - (u0 * u0)))))))))), .second]) rfl k) ?_
  show own_Go _ _ _ _ (s₁.setTop (mkF m 32 #[.val (.long u0), .second, .val (.long (((u0 * ((2 : Int64) - (u0 * u0))) * ((2 : Int64) - (u0 * (u0 * ((2 : Int64) - (u0 * u0)))))) * ((2 : Int64) - (u0 * ((u0 * ((2 : Int64) - (u0 * u0))) * ((2 : Int64) - (u0 * (u0 * ((2 : Int64) - (u0 * u0)))))))))), .second] []))
  refine own_st (fun _ k => XS.lloadN X0.here hx rfl (hb hby d1_32) rfl k) ?_
  show own_Go _ _ _ _ (s₁.setTop (mkF m 33 #[.val (.long u0), .second, .val (.long (((u0 * ((2 : Int64) - (u0 * u0))) * ((2 : Int64) - (u0 * (u0 * ((2 : Int64) - (u0 * u0)))))) * ((2 : Int64) - (u0 * ((u0 * ((2 : Int64) - (u0 * u0))) * ((2 : Int64) - (u0 * (u0 * ((2 : Int64) - (u0 * u0)))))))))), .second] [(.long (((u0 * ((2 : Int64) - (u0 * u0))) * ((2 : Int64) - (u0 * (u0 * ((2 : Int64) - (u0 * u0)))))) * ((2 : Int64) - (u0 * ((u0 * ((2 : Int64) - (u0 * u0))) * ((2 : Int64) - (u0 * (u0 * ((2 : Int64) - (u0 * u0))))))))))]))
  refine own_st (fun _ k => X0.ldc2Long hx hown (mvT hZ (hw _ (List.mem_of_getElem? (i := 5) rfl))) (g := (mkF m 33 #[.val (.long u0), .second, .val (.long (((u0 * ((2 : Int64) - (u0 * u0))) * ((2 : Int64) - (u0 * (u0 * ((2 : Int64) - (u0 * u0)))))) * ((2 : Int64) - (u0 * ((u0 * ((2 : Int64) - (u0 * u0))) * ((2 : Int64) - (u0 * (u0 * ((2 : Int64) - (u0 * u0)))))))))), .second] [(.long (((u0 * ((2 : Int64) - (u0 * u0))) * ((2 : Int64) - (u0 * (u0 * ((2 : Int64) - (u0 * u0)))))) * ((2 : Int64) - (u0 * ((u0 * ((2 : Int64) - (u0 * u0))) * ((2 : Int64) - (u0 * (u0 * ((2 : Int64) - (u0 * u0))))))))))])) rfl (hb hby d1_33) _ k) ?_
  show own_Go _ _ _ _ (s₁.setTop (mkF m 36 #[.val (.long u0), .second, .val (.long (((u0 * ((2 : Int64) - (u0 * u0))) * ((2 : Int64) - (u0 * (u0 * ((2 : Int64) - (u0 * u0)))))) * ((2 : Int64) - (u0 * ((u0 * ((2 : Int64) - (u0 * u0))) * ((2 : Int64) - (u0 * (u0 * ((2 : Int64) - (u0 * u0)))))))))), .second] [(.long (2 : Int64)), (.long (((u0 * ((2 : Int64) - (u0 * u0))) * ((2 : Int64) - (u0 * (u0 * ((2 : Int64) - (u0 * u0)))))) * ((2 : Int64) - (u0 * ((u0 * ((2 : Int64) - (u0 * u0))) * ((2 : Int64) - (u0 * (u0 * ((2 : Int64) - (u0 * u0))))))))))]))
  refine own_st (fun _ k => XS.lloadN X0.here hx rfl (hb hby d1_36) rfl k) ?_
  show own_Go _ _ _ _ (s₁.setTop (mkF m 37 #[.val (.long u0), .second, .val (.long (((u0 * ((2 : Int64) - (u0 * u0))) * ((2 : Int64) - (u0 * (u0 * ((2 : Int64) - (u0 * u0)))))) * ((2 : Int64) - (u0 * ((u0 * ((2 : Int64) - (u0 * u0))) * ((2 : Int64) - (u0 * (u0 * ((2 : Int64) - (u0 * u0)))))))))), .second] [(.long u0), (.long (2 : Int64)), (.long (((u0 * ((2 : Int64) - (u0 * u0))) * ((2 : Int64) - (u0 * (u0 * ((2 : Int64) - (u0 * u0)))))) * ((2 : Int64) - (u0 * ((u0 * ((2 : Int64) - (u0 * u0))) * ((2 : Int64) - (u0 * (u0 * ((2 : Int64) - (u0 * u0))))))))))]))
  refine own_st (fun _ k => XS.lloadN X0.here hx rfl (hb hby d1_37) rfl k) ?_
  show own_Go _ _ _ _ (s₁.setTop (mkF m 38 #[.val (.long u0), .second, .val (.long (((u0 * ((2 : Int64) - (u0 * u0))) * ((2 : Int64) - (u0 * (u0 * ((2 : Int64) - (u0 * u0)))))) * ((2 : Int64) - (u0 * ((u0 * ((2 : Int64) - (u0 * u0))) * ((2 : Int64) - (u0 * (u0 * ((2 : Int64) - (u0 * u0)))))))))), .second] [(.long (((u0 * ((2 : Int64) - (u0 * u0))) * ((2 : Int64) - (u0 * (u0 * ((2 : Int64) - (u0 * u0)))))) * ((2 : Int64) - (u0 * ((u0 * ((2 : Int64) - (u0 * u0))) * ((2 : Int64) - (u0 * (u0 * ((2 : Int64) - (u0 * u0)))))))))), (.long u0), (.long (2 : Int64)), (.long (((u0 * ((2 : Int64) - (u0 * u0))) * ((2 : Int64) - (u0 * (u0 * ((2 : Int64) - (u0 * u0)))))) * ((2 : Int64) - (u0 * ((u0 * ((2 : Int64) - (u0 * u0))) * ((2 : Int64) - (u0 * (u0 * ((2 : Int64) - (u0 * u0))))))))))]))
  refine own_st (fun _ k => XS.lmul X0.here hx rfl (hb hby d1_38) rfl k) ?_
  show own_Go _ _ _ _ (s₁.setTop (mkF m 39 #[.val (.long u0), .second, .val (.long (((u0 * ((2 : Int64) - (u0 * u0))) * ((2 : Int64) - (u0 * (u0 * ((2 : Int64) - (u0 * u0)))))) * ((2 : Int64) - (u0 * ((u0 * ((2 : Int64) - (u0 * u0))) * ((2 : Int64) - (u0 * (u0 * ((2 : Int64) - (u0 * u0)))))))))), .second] [(.long (u0 * (((u0 * ((2 : Int64) - (u0 * u0))) * ((2 : Int64) - (u0 * (u0 * ((2 : Int64) - (u0 * u0)))))) * ((2 : Int64) - (u0 * ((u0 * ((2 : Int64) - (u0 * u0))) * ((2 : Int64) - (u0 * (u0 * ((2 : Int64) - (u0 * u0))))))))))), (.long (2 : Int64)), (.long (((u0 * ((2 : Int64) - (u0 * u0))) * ((2 : Int64) - (u0 * (u0 * ((2 : Int64) - (u0 * u0)))))) * ((2 : Int64) - (u0 * ((u0 * ((2 : Int64) - (u0 * u0))) * ((2 : Int64) - (u0 * (u0 * ((2 : Int64) - (u0 * u0))))))))))]))
  refine own_st (fun _ k => XS.lsub X0.here hx rfl (hb hby d1_39) rfl k) ?_
  show own_Go _ _ _ _ (s₁.setTop (mkF m 40 #[.val (.long u0), .second, .val (.long (((u0 * ((2 : Int64) - (u0 * u0))) * ((2 : Int64) - (u0 * (u0 * ((2 : Int64) - (u0 * u0)))))) * ((2 : Int64) - (u0 * ((u0 * ((2 : Int64) - (u0 * u0))) * ((2 : Int64) - (u0 * (u0 * ((2 : Int64) - (u0 * u0)))))))))), .second] [(.long ((2 : Int64) - (u0 * (((u0 * ((2 : Int64) - (u0 * u0))) * ((2 : Int64) - (u0 * (u0 * ((2 : Int64) - (u0 * u0)))))) * ((2 : Int64) - (u0 * ((u0 * ((2 : Int64) - (u0 * u0))) * ((2 : Int64) - (u0 * (u0 * ((2 : Int64) - (u0 * u0)))))))))))), (.long (((u0 * ((2 : Int64) - (u0 * u0))) * ((2 : Int64) - (u0 * (u0 * ((2 : Int64) - (u0 * u0)))))) * ((2 : Int64) - (u0 * ((u0 * ((2 : Int64) - (u0 * u0))) * ((2 : Int64) - (u0 * (u0 * ((2 : Int64) - (u0 * u0))))))))))]))
  refine own_st (fun _ k => XS.lmul X0.here hx rfl (hb hby d1_40) rfl k) ?_
  show own_Go _ _ _ _ (s₁.setTop (mkF m 41 #[.val (.long u0), .second, .val (.long (((u0 * ((2 : Int64) - (u0 * u0))) * ((2 : Int64) - (u0 * (u0 * ((2 : Int64) - (u0 * u0)))))) * ((2 : Int64) - (u0 * ((u0 * ((2 : Int64) - (u0 * u0))) * ((2 : Int64) - (u0 * (u0 * ((2 : Int64) - (u0 * u0)))))))))), .second] [(.long ((((u0 * ((2 : Int64) - (u0 * u0))) * ((2 : Int64) - (u0 * (u0 * ((2 : Int64) - (u0 * u0)))))) * ((2 : Int64) - (u0 * ((u0 * ((2 : Int64) - (u0 * u0))) * ((2 : Int64) - (u0 * (u0 * ((2 : Int64) - (u0 * u0))))))))) * ((2 : Int64) - (u0 * (((u0 * ((2 : Int64) - (u0 * u0))) * ((2 : Int64) - (u0 * (u0 * ((2 : Int64) - (u0 * u0)))))) * ((2 : Int64) - (u0 * ((u0 * ((2 : Int64) - (u0 * u0))) * ((2 : Int64) - (u0 * (u0 * ((2 : Int64) - (u0 * u0)))))))))))))]))
  refine own_st (fun _ k => XS.lstoreN X0.here hx rfl (hb hby d1_41) rfl (l' := #[.val (.long u0), .second, .val (.long ((((u0 * ((2 : Int64) - (u0 * u0))) * ((2 : Int64) - (u0 * (u0 * ((2 : Int64) - (u0 * u0)))))) * ((2 : Int64) - (u0 * ((u0 * ((2 : Int64) - (u0 * u0))) * ((2 : Int64) - (u0 * (u0 * ((2 : Int64) - (u0 * u0))))))))) * ((2 : Int64) - (u0 * (((u0 * ((2 : Int64) - (u0 * u0))) * ((2 : Int64) - (u0 * (u0 * ((2 : Int64) - (u0 * u0)))))) * ((2 : Int64) - (u0 * ((u0 * ((2 : Int64) - (u0 * u0))) * ((2 : Int64) - (u0 * (u0 * ((2 : Int64) - (u0 * u0))))))))))))), .second]) rfl k) ?_
  show own_Go _ _ _ _ (s₁.setTop (mkF m 42 #[.val (.long u0), .second, .val (.long ((((u0 * ((2 : Int64) - (u0 * u0))) * ((2 : Int64) - (u0 * (u0 * ((2 : Int64) - (u0 * u0)))))) * ((2 : Int64) - (u0 * ((u0 * ((2 : Int64) - (u0 * u0))) * ((2 : Int64) - (u0 * (u0 * ((2 : Int64) - (u0 * u0))))))))) * ((2 : Int64) - (u0 * (((u0 * ((2 : Int64) - (u0 * u0))) * ((2 : Int64) - (u0 * (u0 * ((2 : Int64) - (u0 * u0)))))) * ((2 : Int64) - (u0 * ((u0 * ((2 : Int64) - (u0 * u0))) * ((2 : Int64) - (u0 * (u0 * ((2 : Int64) - (u0 * u0))))))))))))), .second] []))
  refine own_st (fun _ k => XS.lloadN X0.here hx rfl (hb hby d1_42) rfl k) ?_
  show own_Go _ _ _ _ (s₁.setTop (mkF m 43 #[.val (.long u0), .second, .val (.long ((((u0 * ((2 : Int64) - (u0 * u0))) * ((2 : Int64) - (u0 * (u0 * ((2 : Int64) - (u0 * u0)))))) * ((2 : Int64) - (u0 * ((u0 * ((2 : Int64) - (u0 * u0))) * ((2 : Int64) - (u0 * (u0 * ((2 : Int64) - (u0 * u0))))))))) * ((2 : Int64) - (u0 * (((u0 * ((2 : Int64) - (u0 * u0))) * ((2 : Int64) - (u0 * (u0 * ((2 : Int64) - (u0 * u0)))))) * ((2 : Int64) - (u0 * ((u0 * ((2 : Int64) - (u0 * u0))) * ((2 : Int64) - (u0 * (u0 * ((2 : Int64) - (u0 * u0))))))))))))), .second] [(.long ((((u0 * ((2 : Int64) - (u0 * u0))) * ((2 : Int64) - (u0 * (u0 * ((2 : Int64) - (u0 * u0)))))) * ((2 : Int64) - (u0 * ((u0 * ((2 : Int64) - (u0 * u0))) * ((2 : Int64) - (u0 * (u0 * ((2 : Int64) - (u0 * u0))))))))) * ((2 : Int64) - (u0 * (((u0 * ((2 : Int64) - (u0 * u0))) * ((2 : Int64) - (u0 * (u0 * ((2 : Int64) - (u0 * u0)))))) * ((2 : Int64) - (u0 * ((u0 * ((2 : Int64) - (u0 * u0))) * ((2 : Int64) - (u0 * (u0 * ((2 : Int64) - (u0 * u0)))))))))))))]))
  refine own_st (fun _ k => X0.ldc2Long hx hown (mvT hZ (hw _ (List.mem_of_getElem? (i := 5) rfl))) (g := (mkF m 43 #[.val (.long u0), .second, .val (.long ((((u0 * ((2 : Int64) - (u0 * u0))) * ((2 : Int64) - (u0 * (u0 * ((2 : Int64) - (u0 * u0)))))) * ((2 : Int64) - (u0 * ((u0 * ((2 : Int64) - (u0 * u0))) * ((2 : Int64) - (u0 * (u0 * ((2 : Int64) - (u0 * u0))))))))) * ((2 : Int64) - (u0 * (((u0 * ((2 : Int64) - (u0 * u0))) * ((2 : Int64) - (u0 * (u0 * ((2 : Int64) - (u0 * u0)))))) * ((2 : Int64) - (u0 * ((u0 * ((2 : Int64) - (u0 * u0))) * ((2 : Int64) - (u0 * (u0 * ((2 : Int64) - (u0 * u0))))))))))))), .second] [(.long ((((u0 * ((2 : Int64) - (u0 * u0))) * ((2 : Int64) - (u0 * (u0 * ((2 : Int64) - (u0 * u0)))))) * ((2 : Int64) - (u0 * ((u0 * ((2 : Int64) - (u0 * u0))) * ((2 : Int64) - (u0 * (u0 * ((2 : Int64) - (u0 * u0))))))))) * ((2 : Int64) - (u0 * (((u0 * ((2 : Int64) - (u0 * u0))) * ((2 : Int64) - (u0 * (u0 * ((2 : Int64) - (u0 * u0)))))) * ((2 : Int64) - (u0 * ((u0 * ((2 : Int64) - (u0 * u0))) * ((2 : Int64) - (u0 * (u0 * ((2 : Int64) - (u0 * u0)))))))))))))])) rfl (hb hby d1_43) _ k) ?_
  show own_Go _ _ _ _ (s₁.setTop (mkF m 46 #[.val (.long u0), .second, .val (.long ((((u0 * ((2 : Int64) - (u0 * u0))) * ((2 : Int64) - (u0 * (u0 * ((2 : Int64) - (u0 * u0)))))) * ((2 : Int64) - (u0 * ((u0 * ((2 : Int64) - (u0 * u0))) * ((2 : Int64) - (u0 * (u0 * ((2 : Int64) - (u0 * u0))))))))) * ((2 : Int64) - (u0 * (((u0 * ((2 : Int64) - (u0 * u0))) * ((2 : Int64) - (u0 * (u0 * ((2 : Int64) - (u0 * u0)))))) * ((2 : Int64) - (u0 * ((u0 * ((2 : Int64) - (u0 * u0))) * ((2 : Int64) - (u0 * (u0 * ((2 : Int64) - (u0 * u0))))))))))))), .second] [(.long (2 : Int64)), (.long ((((u0 * ((2 : Int64) - (u0 * u0))) * ((2 : Int64) - (u0 * (u0 * ((2 : Int64) - (u0 * u0)))))) * ((2 : Int64) - (u0 * ((u0 * ((2 : Int64) - (u0 * u0))) * ((2 : Int64) - (u0 * (u0 * ((2 : Int64) - (u0 * u0))))))))) * ((2 : Int64) - (u0 * (((u0 * ((2 : Int64) - (u0 * u0))) * ((2 : Int64) - (u0 * (u0 * ((2 : Int64) - (u0 * u0)))))) * ((2 : Int64) - (u0 * ((u0 * ((2 : Int64) - (u0 * u0))) * ((2 : Int64) - (u0 * (u0 * ((2 : Int64) - (u0 * u0)))))))))))))]))
  refine own_st (fun _ k => XS.lloadN X0.here hx rfl (hb hby d1_46) rfl k) ?_
  show own_Go _ _ _ _ (s₁.setTop (mkF m 47 #[.val (.long u0), .second, .val (.long ((((u0 * ((2 : Int64) - (u0 * u0))) * ((2 : Int64) - (u0 * (u0 * ((2 : Int64) - (u0 * u0)))))) * ((2 : Int64) - (u0 * ((u0 * ((2 : Int64) - (u0 * u0))) * ((2 : Int64) - (u0 * (u0 * ((2 : Int64) - (u0 * u0))))))))) * ((2 : Int64) - (u0 * (((u0 * ((2 : Int64) - (u0 * u0))) * ((2 : Int64) - (u0 * (u0 * ((2 : Int64) - (u0 * u0)))))) * ((2 : Int64) - (u0 * ((u0 * ((2 : Int64) - (u0 * u0))) * ((2 : Int64) - (u0 * (u0 * ((2 : Int64) - (u0 * u0))))))))))))), .second] [(.long u0), (.long (2 : Int64)), (.long ((((u0 * ((2 : Int64) - (u0 * u0))) * ((2 : Int64) - (u0 * (u0 * ((2 : Int64) - (u0 * u0)))))) * ((2 : Int64) - (u0 * ((u0 * ((2 : Int64) - (u0 * u0))) * ((2 : Int64) - (u0 * (u0 * ((2 : Int64) - (u0 * u0))))))))) * ((2 : Int64) - (u0 * (((u0 * ((2 : Int64) - (u0 * u0))) * ((2 : Int64) - (u0 * (u0 * ((2 : Int64) - (u0 * u0)))))) * ((2 : Int64) - (u0 * ((u0 * ((2 : Int64) - (u0 * u0))) * ((2 : Int64) - (u0 * (u0 * ((2 : Int64) - (u0 * u0)))))))))))))]))
  refine own_st (fun _ k => XS.lloadN X0.here hx rfl (hb hby d1_47) rfl k) ?_
  show own_Go _ _ _ _ (s₁.setTop (mkF m 48 #[.val (.long u0), .second, .val (.long ((((u0 * ((2 : Int64) - (u0 * u0))) * ((2 : Int64) - (u0 * (u0 * ((2 : Int64) - (u0 * u0)))))) * ((2 : Int64) - (u0 * ((u0 * ((2 : Int64) - (u0 * u0))) * ((2 : Int64) - (u0 * (u0 * ((2 : Int64) - (u0 * u0))))))))) * ((2 : Int64) - (u0 * (((u0 * ((2 : Int64) - (u0 * u0))) * ((2 : Int64) - (u0 * (u0 * ((2 : Int64) - (u0 * u0)))))) * ((2 : Int64) - (u0 * ((u0 * ((2 : Int64) - (u0 * u0))) * ((2 : Int64) - (u0 * (u0 * ((2 : Int64) - (u0 * u0))))))))))))), .second] [(.long ((((u0 * ((2 : Int64) - (u0 * u0))) * ((2 : Int64) - (u0 * (u0 * ((2 : Int64) - (u0 * u0)))))) * ((2 : Int64) - (u0 * ((u0 * ((2 : Int64) - (u0 * u0))) * ((2 : Int64) - (u0 * (u0 * ((2 : Int64) - (u0 * u0))))))))) * ((2 : Int64) - (u0 * (((u0 * ((2 : Int64) - (u0 * u0))) * ((2 : Int64) - (u0 * (u0 * ((2 : Int64) - (u0 * u0)))))) * ((2 : Int64) - (u0 * ((u0 * ((2 : Int64) - (u0 * u0))) * ((2 : Int64) - (u0 * (u0 * ((2 : Int64) - (u0 * u0))))))))))))), (.long u0), (.long (2 : Int64)), (.long ((((u0 * ((2 : Int64) - (u0 * u0))) * ((2 : Int64) - (u0 * (u0 * ((2 : Int64) - (u0 * u0)))))) * ((2 : Int64) - (u0 * ((u0 * ((2 : Int64) - (u0 * u0))) * ((2 : Int64) - (u0 * (u0 * ((2 : Int64) - (u0 * u0))))))))) * ((2 : Int64) - (u0 * (((u0 * ((2 : Int64) - (u0 * u0))) * ((2 : Int64) - (u0 * (u0 * ((2 : Int64) - (u0 * u0)))))) * ((2 : Int64) - (u0 * ((u0 * ((2 : Int64) - (u0 * u0))) * ((2 : Int64) - (u0 * (u0 * ((2 : Int64) - (u0 * u0)))))))))))))]))
  refine own_st (fun _ k => XS.lmul X0.here hx rfl (hb hby d1_48) rfl k) ?_
  show own_Go _ _ _ _ (s₁.setTop (mkF m 49 #[.val (.long u0), .second, .val (.long ((((u0 * ((2 : Int64) - (u0 * u0))) * ((2 : Int64) - (u0 * (u0 * ((2 : Int64) - (u0 * u0)))))) * ((2 : Int64) - (u0 * ((u0 * ((2 : Int64) - (u0 * u0))) * ((2 : Int64) - (u0 * (u0 * ((2 : Int64) - (u0 * u0))))))))) * ((2 : Int64) - (u0 * (((u0 * ((2 : Int64) - (u0 * u0))) * ((2 : Int64) - (u0 * (u0 * ((2 : Int64) - (u0 * u0)))))) * ((2 : Int64) - (u0 * ((u0 * ((2 : Int64) - (u0 * u0))) * ((2 : Int64) - (u0 * (u0 * ((2 : Int64) - (u0 * u0))))))))))))), .second] [(.long (u0 * ((((u0 * ((2 : Int64) - (u0 * u0))) * ((2 : Int64) - (u0 * (u0 * ((2 : Int64) - (u0 * u0)))))) * ((2 : Int64) - (u0 * ((u0 * ((2 : Int64) - (u0 * u0))) * ((2 : Int64) - (u0 * (u0 * ((2 : Int64) - (u0 * u0))))))))) * ((2 : Int64) - (u0 * (((u0 * ((2 : Int64) - (u0 * u0))) * ((2 : Int64) - (u0 * (u0 * ((2 : Int64) - (u0 * u0)))))) * ((2 : Int64) - (u0 * ((u0 * ((2 : Int64) - (u0 * u0))) * ((2 : Int64) - (u0 * (u0 * ((2 : Int64) - (u0 * u0)))))))))))))), (.long (2 : Int64)), (.long ((((u0 * ((2 : Int64) - (u0 * u0))) * ((2 : Int64) - (u0 * (u0 * ((2 : Int64) - (u0 * u0)))))) * ((2 : Int64) - (u0 * ((u0 * ((2 : Int64) - (u0 * u0))) * ((2 : Int64) - (u0 * (u0 * ((2 : Int64) - (u0 * u0))))))))) * ((2 : Int64) - (u0 * (((u0 * ((2 : Int64) - (u0 * u0))) * ((2 : Int64) - (u0 * (u0 * ((2 : Int64) - (u0 * u0)))))) * ((2 : Int64) - (u0 * ((u0 * ((2 : Int64) - (u0 * u0))) * ((2 : Int64) - (u0 * (u0 * ((2 : Int64) - (u0 * u0)))))))))))))]))
  refine own_st (fun _ k => XS.lsub X0.here hx rfl (hb hby d1_49) rfl k) ?_
  show own_Go _ _ _ _ (s₁.setTop (mkF m 50 #[.val (.long u0), .second, .val (.long ((((u0 * ((2 : Int64) - (u0 * u0))) * ((2 : Int64) - (u0 * (u0 * ((2 : Int64) - (u0 * u0)))))) * ((2 : Int64) - (u0 * ((u0 * ((2 : Int64) - (u0 * u0))) * ((2 : Int64) - (u0 * (u0 * ((2 : Int64) - (u0 * u0))))))))) * ((2 : Int64) - (u0 * (((u0 * ((2 : Int64) - (u0 * u0))) * ((2 : Int64) - (u0 * (u0 * ((2 : Int64) - (u0 * u0)))))) * ((2 : Int64) - (u0 * ((u0 * ((2 : Int64) - (u0 * u0))) * ((2 : Int64) - (u0 * (u0 * ((2 : Int64) - (u0 * u0))))))))))))), .second] [(.long ((2 : Int64) - (u0 * ((((u0 * ((2 : Int64) - (u0 * u0))) * ((2 : Int64) - (u0 * (u0 * ((2 : Int64) - (u0 * u0)))))) * ((2 : Int64) - (u0 * ((u0 * ((2 : Int64) - (u0 * u0))) * ((2 : Int64) - (u0 * (u0 * ((2 : Int64) - (u0 * u0))))))))) * ((2 : Int64) - (u0 * (((u0 * ((2 : Int64) - (u0 * u0))) * ((2 : Int64) - (u0 * (u0 * ((2 : Int64) - (u0 * u0)))))) * ((2 : Int64) - (u0 * ((u0 * ((2 : Int64) - (u0 * u0))) * ((2 : Int64) - (u0 * (u0 * ((2 : Int64) - (u0 * u0))))))))))))))), (.long ((((u0 * ((2 : Int64) - (u0 * u0))) * ((2 : Int64) - (u0 * (u0 * ((2 : Int64) - (u0 * u0)))))) * ((2 : Int64) - (u0 * ((u0 * ((2 : Int64) - (u0 * u0))) * ((2 : Int64) - (u0 * (u0 * ((2 : Int64) - (u0 * u0))))))))) * ((2 : Int64) - (u0 * (((u0 * ((2 : Int64) - (u0 * u0))) * ((2 : Int64) - (u0 * (u0 * ((2 : Int64) - (u0 * u0)))))) * ((2 : Int64) - (u0 * ((u0 * ((2 : Int64) - (u0 * u0))) * ((2 : Int64) - (u0 * (u0 * ((2 : Int64) - (u0 * u0)))))))))))))]))
  refine own_st (fun _ k => XS.lmul X0.here hx rfl (hb hby d1_50) rfl k) ?_
  show own_Go _ _ _ _ (s₁.setTop (mkF m 51 #[.val (.long u0), .second, .val (.long ((((u0 * ((2 : Int64) - (u0 * u0))) * ((2 : Int64) - (u0 * (u0 * ((2 : Int64) - (u0 * u0)))))) * ((2 : Int64) - (u0 * ((u0 * ((2 : Int64) - (u0 * u0))) * ((2 : Int64) - (u0 * (u0 * ((2 : Int64) - (u0 * u0))))))))) * ((2 : Int64) - (u0 * (((u0 * ((2 : Int64) - (u0 * u0))) * ((2 : Int64) - (u0 * (u0 * ((2 : Int64) - (u0 * u0)))))) * ((2 : Int64) - (u0 * ((u0 * ((2 : Int64) - (u0 * u0))) * ((2 : Int64) - (u0 * (u0 * ((2 : Int64) - (u0 * u0))))))))))))), .second] [(.long (((((u0 * ((2 : Int64) - (u0 * u0))) * ((2 : Int64) - (u0 * (u0 * ((2 : Int64) - (u0 * u0)))))) * ((2 : Int64) - (u0 * ((u0 * ((2 : Int64) - (u0 * u0))) * ((2 : Int64) - (u0 * (u0 * ((2 : Int64) - (u0 * u0))))))))) * ((2 : Int64) - (u0 * (((u0 * ((2 : Int64) - (u0 * u0))) * ((2 : Int64) - (u0 * (u0 * ((2 : Int64) - (u0 * u0)))))) * ((2 : Int64) - (u0 * ((u0 * ((2 : Int64) - (u0 * u0))) * ((2 : Int64) - (u0 * (u0 * ((2 : Int64) - (u0 * u0)))))))))))) * ((2 : Int64) - (u0 * ((((u0 * ((2 : Int64) - (u0 * u0))) * ((2 : Int64) - (u0 * (u0 * ((2 : Int64) - (u0 * u0)))))) * ((2 : Int64) - (u0 * ((u0 * ((2 : Int64) - (u0 * u0))) * ((2 : Int64) - (u0 * (u0 * ((2 : Int64) - (u0 * u0))))))))) * ((2 : Int64) - (u0 * (((u0 * ((2 : Int64) - (u0 * u0))) * ((2 : Int64) - (u0 * (u0 * ((2 : Int64) - (u0 * u0)))))) * ((2 : Int64) - (u0 * ((u0 * ((2 : Int64) - (u0 * u0))) * ((2 : Int64) - (u0 * (u0 * ((2 : Int64) - (u0 * u0))))))))))))))))]))
  refine own_st (fun _ k => XS.lstoreN X0.here hx rfl (hb hby d1_51) rfl (l' := #[.val (.long u0), .second, .val (.long (((((u0 * ((2 : Int64) - (u0 * u0))) * ((2 : Int64) - (u0 * (u0 * ((2 : Int64) - (u0 * u0)))))) * ((2 : Int64) - (u0 * ((u0 * ((2 : Int64) - (u0 * u0))) * ((2 : Int64) - (u0 * (u0 * ((2 : Int64) - (u0 * u0))))))))) * ((2 : Int64) - (u0 * (((u0 * ((2 : Int64) - (u0 * u0))) * ((2 : Int64) - (u0 * (u0 * ((2 : Int64) - (u0 * u0)))))) * ((2 : Int64) - (u0 * ((u0 * ((2 : Int64) - (u0 * u0))) * ((2 : Int64) - (u0 * (u0 * ((2 : Int64) - (u0 * u0)))))))))))) * ((2 : Int64) - (u0 * ((((u0 * ((2 : Int64) - (u0 * u0))) * ((2 : Int64) - (u0 * (u0 * ((2 : Int64) - (u0 * u0)))))) * ((2 : Int64) - (u0 * ((u0 * ((2 : Int64) - (u0 * u0))) * ((2 : Int64) - (u0 * (u0 * ((2 : Int64) - (u0 * u0))))))))) * ((2 : Int64) - (u0 * (((u0 * ((2 : Int64) - (u0 * u0))) * ((2 : Int64) - (u0 * (u0 * ((2 : Int64) - (u0 * u0)))))) * ((2 : Int64) - (u0 * ((u0 * ((2 : Int64) - (u0 * u0))) * ((2 : Int64) - (u0 * (u0 * ((2 : Int64) - (u0 * u0)))))))))))))))), .second]) rfl k) ?_
  show own_Go _ _ _ _ (s₁.setTop (mkF m 52 #[.val (.long u0), .second, .val (.long (((((u0 * ((2 : Int64) - (u0 * u0))) * ((2 : Int64) - (u0 * (u0 * ((2 : Int64) - (u0 * u0)))))) * ((2 : Int64) - (u0 * ((u0 * ((2 : Int64) - (u0 * u0))) * ((2 : Int64) - (u0 * (u0 * ((2 : Int64) - (u0 * u0))))))))) * ((2 : Int64) - (u0 * (((u0 * ((2 : Int64) - (u0 * u0))) * ((2 : Int64) - (u0 * (u0 * ((2 : Int64) - (u0 * u0)))))) * ((2 : Int64) - (u0 * ((u0 * ((2 : Int64) - (u0 * u0))) * ((2 : Int64) - (u0 * (u0 * ((2 : Int64) - (u0 * u0)))))))))))) * ((2 : Int64) - (u0 * ((((u0 * ((2 : Int64) - (u0 * u0))) * ((2 : Int64) - (u0 * (u0 * ((2 : Int64) - (u0 * u0)))))) * ((2 : Int64) - (u0 * ((u0 * ((2 : Int64) - (u0 * u0))) * ((2 : Int64) - (u0 * (u0 * ((2 : Int64) - (u0 * u0))))))))) * ((2 : Int64) - (u0 * (((u0 * ((2 : Int64) - (u0 * u0))) * ((2 : Int64) - (u0 * (u0 * ((2 : Int64) - (u0 * u0)))))) * ((2 : Int64) - (u0 * ((u0 * ((2 : Int64) - (u0 * u0))) * ((2 : Int64) - (u0 * (u0 * ((2 : Int64) - (u0 * u0)))))))))))))))), .second] []))
  refine own_st (fun _ k => XS.lloadN X0.here hx rfl (hb hby d1_52) rfl k) ?_
  show own_Go _ _ _ _ (s₁.setTop (mkF m 53 #[.val (.long u0), .second, .val (.long (((((u0 * ((2 : Int64) - (u0 * u0))) * ((2 : Int64) - (u0 * (u0 * ((2 : Int64) - (u0 * u0)))))) * ((2 : Int64) - (u0 * ((u0 * ((2 : Int64) - (u0 * u0))) * ((2 : Int64) - (u0 * (u0 * ((2 : Int64) - (u0 * u0))))))))) * ((2 : Int64) - (u0 * (((u0 * ((2 : Int64) - (u0 * u0))) * ((2 : Int64) - (u0 * (u0 * ((2 : Int64) - (u0 * u0)))))) * ((2 : Int64) - (u0 * ((u0 * ((2 : Int64) - (u0 * u0))) * ((2 : Int64) - (u0 * (u0 * ((2 : Int64) - (u0 * u0)))))))))))) * ((2 : Int64) - (u0 * ((((u0 * ((2 : Int64) - (u0 * u0))) * ((2 : Int64) - (u0 * (u0 * ((2 : Int64) - (u0 * u0)))))) * ((2 : Int64) - (u0 * ((u0 * ((2 : Int64) - (u0 * u0))) * ((2 : Int64) - (u0 * (u0 * ((2 : Int64) - (u0 * u0))))))))) * ((2 : Int64) - (u0 * (((u0 * ((2 : Int64) - (u0 * u0))) * ((2 : Int64) - (u0 * (u0 * ((2 : Int64) - (u0 * u0)))))) * ((2 : Int64) - (u0 * ((u0 * ((2 : Int64) - (u0 * u0))) * ((2 : Int64) - (u0 * (u0 * ((2 : Int64) - (u0 * u0)))))))))))))))), .second] [(.long (((((u0 * ((2 : Int64) - (u0 * u0))) * ((2 : Int64) - (u0 * (u0 * ((2 : Int64) - (u0 * u0)))))) * ((2 : Int64) - (u0 * ((u0 * ((2 : Int64) - (u0 * u0))) * ((2 : Int64) - (u0 * (u0 * ((2 : Int64) - (u0 * u0))))))))) * ((2 : Int64) - (u0 * (((u0 * ((2 : Int64) - (u0 * u0))) * ((2 : Int64) - (u0 * (u0 * ((2 : Int64) - (u0 * u0)))))) * ((2 : Int64) - (u0 * ((u0 * ((2 : Int64) - (u0 * u0))) * ((2 : Int64) - (u0 * (u0 * ((2 : Int64) - (u0 * u0)))))))))))) * ((2 : Int64) - (u0 * ((((u0 * ((2 : Int64) - (u0 * u0))) * ((2 : Int64) - (u0 * (u0 * ((2 : Int64) - (u0 * u0)))))) * ((2 : Int64) - (u0 * ((u0 * ((2 : Int64) - (u0 * u0))) * ((2 : Int64) - (u0 * (u0 * ((2 : Int64) - (u0 * u0))))))))) * ((2 : Int64) - (u0 * (((u0 * ((2 : Int64) - (u0 * u0))) * ((2 : Int64) - (u0 * (u0 * ((2 : Int64) - (u0 * u0)))))) * ((2 : Int64) - (u0 * ((u0 * ((2 : Int64) - (u0 * u0))) * ((2 : Int64) - (u0 * (u0 * ((2 : Int64) - (u0 * u0))))))))))))))))]))
  obtain ⟨fs, hr, hrun, hended, hW, hsame⟩ := X0.leave (v := some (.long (((((u0 * ((2 : Int64) - (u0 * u0))) * ((2 : Int64) - (u0 * (u0 * ((2 : Int64) - (u0 * u0)))))) * ((2 : Int64) - (u0 * ((u0 * ((2 : Int64) - (u0 * u0))) * ((2 : Int64) - (u0 * (u0 * ((2 : Int64) - (u0 * u0))))))))) * ((2 : Int64) - (u0 * (((u0 * ((2 : Int64) - (u0 * u0))) * ((2 : Int64) - (u0 * (u0 * ((2 : Int64) - (u0 * u0)))))) * ((2 : Int64) - (u0 * ((u0 * ((2 : Int64) - (u0 * u0))) * ((2 : Int64) - (u0 * (u0 * ((2 : Int64) - (u0 * u0)))))))))))) * ((2 : Int64) - (u0 * ((((u0 * ((2 : Int64) - (u0 * u0))) * ((2 : Int64) - (u0 * (u0 * ((2 : Int64) - (u0 * u0)))))) * ((2 : Int64) - (u0 * ((u0 * ((2 : Int64) - (u0 * u0))) * ((2 : Int64) - (u0 * (u0 * ((2 : Int64) - (u0 * u0))))))))) * ((2 : Int64) - (u0 * (((u0 * ((2 : Int64) - (u0 * u0))) * ((2 : Int64) - (u0 * (u0 * ((2 : Int64) - (u0 * u0)))))) * ((2 : Int64) - (u0 * ((u0 * ((2 : Int64) - (u0 * u0))) * ((2 : Int64) - (u0 * (u0 * ((2 : Int64) - (u0 * u0))))))))))))))))) (fun h => by rw [Bd.returns] at h; cases h)
  refine own_out (X0.lreturnOut hx Bd.returns (hb hby d1_53) hr) ⟨hrun, hended, _, _, rfl, ?_, ⟨_, rfl⟩, hW, hsame.mono (by decide) (by decide)⟩
  show Q1 Z u0 h0 n0 _ s₁.heap _
  have hv : own_inv u0 = (((((u0 * ((2 : Int64) - (u0 * u0))) * ((2 : Int64) - (u0 * (u0 * ((2 : Int64) - (u0 * u0)))))) * ((2 : Int64) - (u0 * ((u0 * ((2 : Int64) - (u0 * u0))) * ((2 : Int64) - (u0 * (u0 * ((2 : Int64) - (u0 * u0))))))))) * ((2 : Int64) - (u0 * (((u0 * ((2 : Int64) - (u0 * u0))) * ((2 : Int64) - (u0 * (u0 * ((2 : Int64) - (u0 * u0)))))) * ((2 : Int64) - (u0 * ((u0 * ((2 : Int64) - (u0 * u0))) * ((2 : Int64) - (u0 * (u0 * ((2 : Int64) - (u0 * u0)))))))))))) * ((2 : Int64) - (u0 * ((((u0 * ((2 : Int64) - (u0 * u0))) * ((2 : Int64) - (u0 * (u0 * ((2 : Int64) - (u0 * u0)))))) * ((2 : Int64) - (u0 * ((u0 * ((2 : Int64) - (u0 * u0))) * ((2 : Int64) - (u0 * (u0 * ((2 : Int64) - (u0 * u0))))))))) * ((2 : Int64) - (u0 * (((u0 * ((2 : Int64) - (u0 * u0))) * ((2 : Int64) - (u0 * (u0 * ((2 : Int64) - (u0 * u0)))))) * ((2 : Int64) - (u0 * ((u0 * ((2 : Int64) - (u0 * u0))) * ((2 : Int64) - (u0 * (u0 * ((2 : Int64) - (u0 * u0))))))))))))))) := rfl
  exact ⟨by rw [hv], N0, e0⟩
def own_key (u0 : Int32) (u1 : Int64) (u2 : Int64) (u3 : Int32) : Int64 := ((((((((u0 &&& (15 : Int32)) + (((u0.toUInt32 >>> (((4 : Int32) + ((2 : Int32) * u3)) &&& 31).toUInt32).toInt32) &&& (3 : Int32))) &&& (15 : Int32)).toInt64) <<< ((60 : Int32) &&& 0x3f).toInt64) ||| ((u3.toInt64) <<< ((56 : Int32) &&& 0x3f).toInt64)) ||| (u1 &&& (72057594037927935 : Int64))) * u2)
theorem d2_0 : decode method_3_code 0 = .ok (.iload_n 0, 1) := by decide +kernel
theorem d2_1 : decode method_3_code 1 = .ok (.bipush 15, 2) := by decide +kernel
theorem d2_3 : decode method_3_code 3 = .ok (.iand, 1) := by decide +kernel
theorem d2_4 : decode method_3_code 4 = .ok (.istore 6, 2) := by decide +kernel
theorem d2_6 : decode method_3_code 6 = .ok (.iload_n 0, 1) := by decide +kernel
theorem d2_7 : decode method_3_code 7 = .ok (.iconst 4, 1) := by decide +kernel
theorem d2_8 : decode method_3_code 8 = .ok (.iconst 2, 1) := by decide +kernel
theorem d2_9 : decode method_3_code 9 = .ok (.iload 5, 2) := by decide +kernel
theorem d2_11 : decode method_3_code 11 = .ok (.imul, 1) := by decide +kernel
theorem d2_12 : decode method_3_code 12 = .ok (.iadd, 1) := by decide +kernel
theorem d2_13 : decode method_3_code 13 = .ok (.iushr, 1) := by decide +kernel
theorem d2_14 : decode method_3_code 14 = .ok (.iconst 3, 1) := by decide +kernel
theorem d2_15 : decode method_3_code 15 = .ok (.iand, 1) := by decide +kernel
theorem d2_16 : decode method_3_code 16 = .ok (.istore 7, 2) := by decide +kernel
theorem d2_18 : decode method_3_code 18 = .ok (.iload 6, 2) := by decide +kernel
theorem d2_20 : decode method_3_code 20 = .ok (.iload 7, 2) := by decide +kernel
theorem d2_22 : decode method_3_code 22 = .ok (.iadd, 1) := by decide +kernel
theorem d2_23 : decode method_3_code 23 = .ok (.bipush 15, 2) := by decide +kernel
theorem d2_25 : decode method_3_code 25 = .ok (.iand, 1) := by decide +kernel
theorem d2_26 : decode method_3_code 26 = .ok (.i2l, 1) := by decide +kernel
theorem d2_27 : decode method_3_code 27 = .ok (.bipush 60, 2) := by decide +kernel
theorem d2_29 : decode method_3_code 29 = .ok (.lshl, 1) := by decide +kernel
theorem d2_30 : decode method_3_code 30 = .ok (.iload 5, 2) := by decide +kernel
theorem d2_32 : decode method_3_code 32 = .ok (.i2l, 1) := by decide +kernel
theorem d2_33 : decode method_3_code 33 = .ok (.bipush 56, 2) := by decide +kernel
theorem d2_35 : decode method_3_code 35 = .ok (.lshl, 1) := by decide +kernel
theorem d2_36 : decode method_3_code 36 = .ok (.lor, 1) := by decide +kernel
theorem d2_37 : decode method_3_code 37 = .ok (.lload_n 1, 1) := by decide +kernel
theorem d2_38 : decode method_3_code 38 = .ok (.ldc2_w 9, 3) := by decide +kernel
theorem d2_41 : decode method_3_code 41 = .ok (.land, 1) := by decide +kernel
theorem d2_42 : decode method_3_code 42 = .ok (.lor, 1) := by decide +kernel
theorem d2_43 : decode method_3_code 43 = .ok (.lstore 8, 2) := by decide +kernel
theorem d2_45 : decode method_3_code 45 = .ok (.lload 8, 2) := by decide +kernel
theorem d2_47 : decode method_3_code 47 = .ok (.lload_n 3, 1) := by decide +kernel
theorem d2_48 : decode method_3_code 48 = .ok (.lmul, 1) := by decide +kernel
theorem d2_49 : decode method_3_code 49 = .ok (.lreturn, 1) := by decide +kernel
theorem own_pd1 : parseMethodDescriptor "(IJJI)J" = some ⟨[.int, .long, .long, .int], some .long⟩ := by decide +kernel
def Q2 (Z : State) (u0 : Int32) (u1 : Int64) (u2 : Int64) (u3 : Int32) (h0 : Heap) (n0 : Nat) (v : Option Value) (h : Heap) (L : List Loc) : Prop := v = some (.long (own_key u0 u1 u2 u3)) ∧ Fr n0 L ∧ h = h0
theorem ef_2 (m : MethodId) (x0 : Int32) (x1 : Int64) (x2 : Int64) (x3 : Int32) : entryFrame m #[(.int x0), (.long x1), (.long x2), (.int x3)] 10 = mkF m 0 #[.val (.int x0), .val (.long x1), .second, .val (.long x2), .second, .val (.int x3), .unset, .unset, .unset, .unset] [] := by first | (simp [entryFrame, mkF, argsToLocals, Value.category]; done) | rfl
set_option maxRecDepth 65536 in
set_option maxHeartbeats 40000000 in
theorem rm2 (l : Launch) (Z : State) (a0 : Array Value) (hw : ∀ d ∈ tables_1, d.before a0 Z = true) (ws : List Jvm.Cond) (u0 : Int32) (u1 : Int64) (u2 : Int64) (u3 : Int32) (h0 : Heap) (n0 : Nat) (Z0 : n0 ≤ h0.size)  :
    MetFree l (⟨"quillvax/store/LongMapRemovePinLaw", "key", "(IJJI)J"⟩ : MethodName) (head1 (Jvm.Cond.code (⟨"quillvax/store/LongMapRemovePinLaw", "key", "(IJJI)J"⟩ : MethodName) method_3_code 10 (some .long) :: ws) ({ frames := 0, cells := 0, slots := 0, locals := 0 } : Room)) (fun a U => a = #[(.int u0), (.long u1), (.long u2), (.int u3)] ∧ Z.Warmed39 U.vm ∧ U.heap = h0) (fun _ _ _ _ _ => True) (fun _ U o U' => ∃ v L, o = .returned v ∧ Q2 Z u0 u1 u2 u3 h0 n0 v U'.heap L ∧ FrameEnd U o U' L ({ frames := 0, cells := 0, slots := 0, locals := 0 } : Room).cells ({ frames := 0, cells := 0, slots := 0, locals := 0 } : Room).slots) := by
  refine MetFree.of_bodySF (plainFor_of_name own_pn0) hisR ?_
  intro p e s m args below meth c s₁ Bd hml0 hP hK
  obtain ⟨rfl, hZ, hh⟩ := hP
  have hx := Bd.exec
  have hby := Bd.bytes
  have hml : c.maxLocals = 10 := hml0
  have hown : s.vm.findClass "quillvax/store/LongMapRemovePinLaw" = some m.cls := findClass_of_methodNamed Bd.named
  have hnm := (name_of_methodNamed Bd.named Bd.method).1
  have X0 : Stand p l e ({ frames := 0, cells := 0, slots := 0, locals := 0 } : Room) s m #[(.int u0), (.long u1), (.long u2), (.int u3)] below meth c s₁ [] 0 0 := Stand.of_body Bd
  have e0 : s₁.heap = h0 := by rw [← hh, Bd.state]; rfl
  have N0 := Fr.nil n0
  refine own_in ?_
  refine own_st (fun _ k => castTop (ef_2 m u0 u1 u2 u3) k) ?_
  have K0 : Keep h0 h0 [] := Keep.refl h0 []
  show own_Go _ _ _ _ (s₁.setTop (mkF m 0 #[.val (.int u0), .val (.long u1), .second, .val (.long u2), .second, .val (.int u3), .unset, .unset, .unset, .unset] []))
  refine own_st (fun _ k => XS.iloadN X0.here hx rfl (hb hby d2_0) rfl k) ?_
  show own_Go _ _ _ _ (s₁.setTop (mkF m 1 #[.val (.int u0), .val (.long u1), .second, .val (.long u2), .second, .val (.int u3), .unset, .unset, .unset, .unset] [(.int u0)]))
  refine own_st (fun _ k => XS.bipush X0.here hx rfl (hb hby d2_1) k) ?_
  show own_Go _ _ _ _ (s₁.setTop (mkF m 3 #[.val (.int u0), .val (.long u1), .second, .val (.long u2), .second, .val (.int u3), .unset, .unset, .unset, .unset] [(.int (15 : Int32)), (.int u0)]))
  refine own_st (fun _ k => XS.iand X0.here hx rfl (hb hby d2_3) rfl k) ?_
  show own_Go _ _ _ _ (s₁.setTop (mkF m 4 #[.val (.int u0), .val (.long u1), .second, .val (.long u2), .second, .val (.int u3), .unset, .unset, .unset, .unset] [(.int (u0 &&& (15 : Int32)))]))
  refine own_st (fun _ k => XS.istore X0.here hx rfl (hb hby d2_4) rfl (l' := #[.val (.int u0), .val (.long u1), .second, .val (.long u2), .second, .val (.int u3), .val (.int (u0 &&& (15 : Int32))), .unset, .unset, .unset]) rfl k) ?_
  show own_Go _ _ _ _ (s₁.setTop (mkF m 6 #[.val (.int u0), .val (.long u1), .second, .val (.long u2), .second, .val (.int u3), .val (.int (u0 &&& (15 : Int32))), .unset, .unset, .unset] []))
  refine own_st (fun _ k => XS.iloadN X0.here hx rfl (hb hby d2_6) rfl k) ?_
  show own_Go _ _ _ _ (s₁.setTop (mkF m 7 #[.val (.int u0), .val (.long u1), .second, .val (.long u2), .second, .val (.int u3), .val (.int (u0 &&& (15 : Int32))), .unset, .unset, .unset] [(.int u0)]))
  refine own_st (fun _ k => XS.iconst X0.here hx rfl (hb hby d2_7) k) ?_
  show own_Go _ _ _ _ (s₁.setTop (mkF m 8 #[.val (.int u0), .val (.long u1), .second, .val (.long u2), .second, .val (.int u3), .val (.int (u0 &&& (15 : Int32))), .unset, .unset, .unset] [(.int (4 : Int32)), (.int u0)]))
  refine own_st (fun _ k => XS.iconst X0.here hx rfl (hb hby d2_8) k) ?_
  show own_Go _ _ _ _ (s₁.setTop (mkF m 9 #[.val (.int u0), .val (.long u1), .second, .val (.long u2), .second, .val (.int u3), .val (.int (u0 &&& (15 : Int32))), .unset, .unset, .unset] [(.int (2 : Int32)), (.int (4 : Int32)), (.int u0)]))
  refine own_st (fun _ k => XS.iload X0.here hx rfl (hb hby d2_9) rfl k) ?_
  show own_Go _ _ _ _ (s₁.setTop (mkF m 11 #[.val (.int u0), .val (.long u1), .second, .val (.long u2), .second, .val (.int u3), .val (.int (u0 &&& (15 : Int32))), .unset, .unset, .unset] [(.int u3), (.int (2 : Int32)), (.int (4 : Int32)), (.int u0)]))
  refine own_st (fun _ k => XS.imul X0.here hx rfl (hb hby d2_11) rfl k) ?_
  show own_Go _ _ _ _ (s₁.setTop (mkF m 12 #[.val (.int u0), .val (.long u1), .second, .val (.long u2), .second, .val (.int u3), .val (.int (u0 &&& (15 : Int32))), .unset, .unset, .unset] [(.int ((2 : Int32) * u3)), (.int (4 : Int32)), (.int u0)]))
  refine own_st (fun _ k => XS.iadd X0.here hx rfl (hb hby d2_12) rfl k) ?_
  show own_Go _ _ _ _ (s₁.setTop (mkF m 13 #[.val (.int u0), .val (.long u1), .second, .val (.long u2), .second, .val (.int u3), .val (.int (u0 &&& (15 : Int32))), .unset, .unset, .unset] [(.int ((4 : Int32) + ((2 : Int32) * u3))), (.int u0)]))
  refine own_st (fun _ k => XS.iushr X0.here hx rfl (hb hby d2_13) rfl k) ?_
  show own_Go _ _ _ _ (s₁.setTop (mkF m 14 #[.val (.int u0), .val (.long u1), .second, .val (.long u2), .second, .val (.int u3), .val (.int (u0 &&& (15 : Int32))), .unset, .unset, .unset] [(.int ((u0.toUInt32 >>> (((4 : Int32) + ((2 : Int32) * u3)) &&& 31).toUInt32).toInt32))]))
  refine own_st (fun _ k => XS.iconst X0.here hx rfl (hb hby d2_14) k) ?_
  show own_Go _ _ _ _ (s₁.setTop (mkF m 15 #[.val (.int u0), .val (.long u1), .second, .val (.long u2), .second, .val (.int u3), .val (.int (u0 &&& (15 : Int32))), .unset, .unset, .unset] [(.int (3 : Int32)), (.int ((u0.toUInt32 >>> (((4 : Int32) + ((2 : Int32) * u3)) &&& 31).toUInt32).toInt32))]))
  refine own_st (fun _ k => XS.iand X0.here hx rfl (hb hby d2_15) rfl k) ?_
  show own_Go _ _ _ _ (s₁.setTop (mkF m 16 #[.val (.int u0), .val (.long u1), .second, .val (.long u2), .second, .val (.int u3), .val (.int (u0 &&& (15 : Int32))), .unset, .unset, .unset] [(.int (((u0.toUInt32 >>> (((4 : Int32) + ((2 : Int32) * u3)) &&& 31).toUInt32).toInt32) &&& (3 : Int32)))]))
  refine own_st (fun _ k => XS.istore X0.here hx rfl (hb hby d2_16) rfl (l' := #[.val (.int u0), .val (.long u1), .second, .val (.long u2), .second, .val (.int u3), .val (.int (u0 &&& (15 : Int32))), .val (.int (((u0.toUInt32 >>> (((4 : Int32) + ((2 : Int32) * u3)) &&& 31).toUInt32).toInt32) &&& (3 : Int32))), .unset, .unset]) rfl k) ?_
  show own_Go _ _ _ _ (s₁.setTop (mkF m 18 #[.val (.int u0), .val (.long u1), .second, .val (.long u2), .second, .val (.int u3), .val (.int (u0 &&& (15 : Int32))), .val (.int (((u0.toUInt32 >>> (((4 : Int32) + ((2 : Int32) * u3)) &&& 31).toUInt32).toInt32) &&& (3 : Int32))), .unset, .unset] []))
  refine own_st (fun _ k => XS.iload X0.here hx rfl (hb hby d2_18) rfl k) ?_
  show own_Go _ _ _ _ (s₁.setTop (mkF m 20 #[.val (.int u0), .val (.long u1), .second, .val (.long u2), .second, .val (.int u3), .val (.int (u0 &&& (15 : Int32))), .val (.int (((u0.toUInt32 >>> (((4 : Int32) + ((2 : Int32) * u3)) &&& 31).toUInt32).toInt32) &&& (3 : Int32))), .unset, .unset] [(.int (u0 &&& (15 : Int32)))]))
  refine own_st (fun _ k => XS.iload X0.here hx rfl (hb hby d2_20) rfl k) ?_
  show own_Go _ _ _ _ (s₁.setTop (mkF m 22 #[.val (.int u0), .val (.long u1), .second, .val (.long u2), .second, .val (.int u3), .val (.int (u0 &&& (15 : Int32))), .val (.int (((u0.toUInt32 >>> (((4 : Int32) + ((2 : Int32) * u3)) &&& 31).toUInt32).toInt32) &&& (3 : Int32))), .unset, .unset] [(.int (((u0.toUInt32 >>> (((4 : Int32) + ((2 : Int32) * u3)) &&& 31).toUInt32).toInt32) &&& (3 : Int32))), (.int (u0 &&& (15 : Int32)))]))
  refine own_st (fun _ k => XS.iadd X0.here hx rfl (hb hby d2_22) rfl k) ?_
  show own_Go _ _ _ _ (s₁.setTop (mkF m 23 #[.val (.int u0), .val (.long u1), .second, .val (.long u2), .second, .val (.int u3), .val (.int (u0 &&& (15 : Int32))), .val (.int (((u0.toUInt32 >>> (((4 : Int32) + ((2 : Int32) * u3)) &&& 31).toUInt32).toInt32) &&& (3 : Int32))), .unset, .unset] [(.int ((u0 &&& (15 : Int32)) + (((u0.toUInt32 >>> (((4 : Int32) + ((2 : Int32) * u3)) &&& 31).toUInt32).toInt32) &&& (3 : Int32))))]))
  refine own_st (fun _ k => XS.bipush X0.here hx rfl (hb hby d2_23) k) ?_
  show own_Go _ _ _ _ (s₁.setTop (mkF m 25 #[.val (.int u0), .val (.long u1), .second, .val (.long u2), .second, .val (.int u3), .val (.int (u0 &&& (15 : Int32))), .val (.int (((u0.toUInt32 >>> (((4 : Int32) + ((2 : Int32) * u3)) &&& 31).toUInt32).toInt32) &&& (3 : Int32))), .unset, .unset] [(.int (15 : Int32)), (.int ((u0 &&& (15 : Int32)) + (((u0.toUInt32 >>> (((4 : Int32) + ((2 : Int32) * u3)) &&& 31).toUInt32).toInt32) &&& (3 : Int32))))]))
  refine own_st (fun _ k => XS.iand X0.here hx rfl (hb hby d2_25) rfl k) ?_
  show own_Go _ _ _ _ (s₁.setTop (mkF m 26 #[.val (.int u0), .val (.long u1), .second, .val (.long u2), .second, .val (.int u3), .val (.int (u0 &&& (15 : Int32))), .val (.int (((u0.toUInt32 >>> (((4 : Int32) + ((2 : Int32) * u3)) &&& 31).toUInt32).toInt32) &&& (3 : Int32))), .unset, .unset] [(.int (((u0 &&& (15 : Int32)) + (((u0.toUInt32 >>> (((4 : Int32) + ((2 : Int32) * u3)) &&& 31).toUInt32).toInt32) &&& (3 : Int32))) &&& (15 : Int32)))]))
  refine own_st (fun _ k => XS.i2l X0.here hx rfl (hb hby d2_26) rfl k) ?_
  show own_Go _ _ _ _ (s₁.setTop (mkF m 27 #[.val (.int u0), .val (.long u1), .second, .val (.long u2), .second, .val (.int u3), .val (.int (u0 &&& (15 : Int32))), .val (.int (((u0.toUInt32 >>> (((4 : Int32) + ((2 : Int32) * u3)) &&& 31).toUInt32).toInt32) &&& (3 : Int32))), .unset, .unset] [(.long ((((u0 &&& (15 : Int32)) + (((u0.toUInt32 >>> (((4 : Int32) + ((2 : Int32) * u3)) &&& 31).toUInt32).toInt32) &&& (3 : Int32))) &&& (15 : Int32)).toInt64))]))
  refine own_st (fun _ k => XS.bipush X0.here hx rfl (hb hby d2_27) k) ?_
  show own_Go _ _ _ _ (s₁.setTop (mkF m 29 #[.val (.int u0), .val (.long u1), .second, .val (.long u2), .second, .val (.int u3), .val (.int (u0 &&& (15 : Int32))), .val (.int (((u0.toUInt32 >>> (((4 : Int32) + ((2 : Int32) * u3)) &&& 31).toUInt32).toInt32) &&& (3 : Int32))), .unset, .unset] [(.int (60 : Int32)), (.long ((((u0 &&& (15 : Int32)) + (((u0.toUInt32 >>> (((4 : Int32) + ((2 : Int32) * u3)) &&& 31).toUInt32).toInt32) &&& (3 : Int32))) &&& (15 : Int32)).toInt64))]))
  refine own_st (fun _ k => XS.lshl X0.here hx rfl (hb hby d2_29) rfl k) ?_
  show own_Go _ _ _ _ (s₁.setTop (mkF m 30 #[.val (.int u0), .val (.long u1), .second, .val (.long u2), .second, .val (.int u3), .val (.int (u0 &&& (15 : Int32))), .val (.int (((u0.toUInt32 >>> (((4 : Int32) + ((2 : Int32) * u3)) &&& 31).toUInt32).toInt32) &&& (3 : Int32))), .unset, .unset] [(.long (((((u0 &&& (15 : Int32)) + (((u0.toUInt32 >>> (((4 : Int32) + ((2 : Int32) * u3)) &&& 31).toUInt32).toInt32) &&& (3 : Int32))) &&& (15 : Int32)).toInt64) <<< ((60 : Int32) &&& 0x3f).toInt64))]))
  refine own_st (fun _ k => XS.iload X0.here hx rfl (hb hby d2_30) rfl k) ?_
  show own_Go _ _ _ _ (s₁.setTop (mkF m 32 #[.val (.int u0), .val (.long u1), .second, .val (.long u2), .second, .val (.int u3), .val (.int (u0 &&& (15 : Int32))), .val (.int (((u0.toUInt32 >>> (((4 : Int32) + ((2 : Int32) * u3)) &&& 31).toUInt32).toInt32) &&& (3 : Int32))), .unset, .unset] [(.int u3), (.long (((((u0 &&& (15 : Int32)) + (((u0.toUInt32 >>> (((4 : Int32) + ((2 : Int32) * u3)) &&& 31).toUInt32).toInt32) &&& (3 : Int32))) &&& (15 : Int32)).toInt64) <<< ((60 : Int32) &&& 0x3f).toInt64))]))
  refine own_st (fun _ k => XS.i2l X0.here hx rfl (hb hby d2_32) rfl k) ?_
  show own_Go _ _ _ _ (s₁.setTop (mkF m 33 #[.val (.int u0), .val (.long u1), .second, .val (.long u2), .second, .val (.int u3), .val (.int (u0 &&& (15 : Int32))), .val (.int (((u0.toUInt32 >>> (((4 : Int32) + ((2 : Int32) * u3)) &&& 31).toUInt32).toInt32) &&& (3 : Int32))), .unset, .unset] [(.long (u3.toInt64)), (.long (((((u0 &&& (15 : Int32)) + (((u0.toUInt32 >>> (((4 : Int32) + ((2 : Int32) * u3)) &&& 31).toUInt32).toInt32) &&& (3 : Int32))) &&& (15 : Int32)).toInt64) <<< ((60 : Int32) &&& 0x3f).toInt64))]))
  refine own_st (fun _ k => XS.bipush X0.here hx rfl (hb hby d2_33) k) ?_
  show own_Go _ _ _ _ (s₁.setTop (mkF m 35 #[.val (.int u0), .val (.long u1), .second, .val (.long u2), .second, .val (.int u3), .val (.int (u0 &&& (15 : Int32))), .val (.int (((u0.toUInt32 >>> (((4 : Int32) + ((2 : Int32) * u3)) &&& 31).toUInt32).toInt32) &&& (3 : Int32))), .unset, .unset] [(.int (56 : Int32)), (.long (u3.toInt64)), (.long (((((u0 &&& (15 : Int32)) + (((u0.toUInt32 >>> (((4 : Int32) + ((2 : Int32) * u3)) &&& 31).toUInt32).toInt32) &&& (3 : Int32))) &&& (15 : Int32)).toInt64) <<< ((60 : Int32) &&& 0x3f).toInt64))]))
  refine own_st (fun _ k => XS.lshl X0.here hx rfl (hb hby d2_35) rfl k) ?_
  show own_Go _ _ _ _ (s₁.setTop (mkF m 36 #[.val (.int u0), .val (.long u1), .second, .val (.long u2), .second, .val (.int u3), .val (.int (u0 &&& (15 : Int32))), .val (.int (((u0.toUInt32 >>> (((4 : Int32) + ((2 : Int32) * u3)) &&& 31).toUInt32).toInt32) &&& (3 : Int32))), .unset, .unset] [(.long ((u3.toInt64) <<< ((56 : Int32) &&& 0x3f).toInt64)), (.long (((((u0 &&& (15 : Int32)) + (((u0.toUInt32 >>> (((4 : Int32) + ((2 : Int32) * u3)) &&& 31).toUInt32).toInt32) &&& (3 : Int32))) &&& (15 : Int32)).toInt64) <<< ((60 : Int32) &&& 0x3f).toInt64))]))
  refine own_st (fun _ k => XS.lor X0.here hx rfl (hb hby d2_36) rfl k) ?_
  show own_Go _ _ _ _ (s₁.setTop (mkF m 37 #[.val (.int u0), .val (.long u1), .second, .val (.long u2), .second, .val (.int u3), .val (.int (u0 &&& (15 : Int32))), .val (.int (((u0.toUInt32 >>> (((4 : Int32) + ((2 : Int32) * u3)) &&& 31).toUInt32).toInt32) &&& (3 : Int32))), .unset, .unset] [(.long ((((((u0 &&& (15 : Int32)) + (((u0.toUInt32 >>> (((4 : Int32) + ((2 : Int32) * u3)) &&& 31).toUInt32).toInt32) &&& (3 : Int32))) &&& (15 : Int32)).toInt64) <<< ((60 : Int32) &&& 0x3f).toInt64) ||| ((u3.toInt64) <<< ((56 : Int32) &&& 0x3f).toInt64)))]))
  refine own_st (fun _ k => XS.lloadN X0.here hx rfl (hb hby d2_37) rfl k) ?_
  show own_Go _ _ _ _ (s₁.setTop (mkF m 38 #[.val (.int u0), .val (.long u1), .second, .val (.long u2), .second, .val (.int u3), .val (.int (u0 &&& (15 : Int32))), .val (.int (((u0.toUInt32 >>> (((4 : Int32) + ((2 : Int32) * u3)) &&& 31).toUInt32).toInt32) &&& (3 : Int32))), .unset, .unset] [(.long u1), (.long ((((((u0 &&& (15 : Int32)) + (((u0.toUInt32 >>> (((4 : Int32) + ((2 : Int32) * u3)) &&& 31).toUInt32).toInt32) &&& (3 : Int32))) &&& (15 : Int32)).toInt64) <<< ((60 : Int32) &&& 0x3f).toInt64) ||| ((u3.toInt64) <<< ((56 : Int32) &&& 0x3f).toInt64)))]))
  refine own_st (fun _ k => X0.ldc2Long hx hown (mvT hZ (hw _ (List.mem_of_getElem? (i := 10) rfl))) (g := (mkF m 38 #[.val (.int u0), .val (.long u1), .second, .val (.long u2), .second, .val (.int u3), .val (.int (u0 &&& (15 : Int32))), .val (.int (((u0.toUInt32 >>> (((4 : Int32) + ((2 : Int32) * u3)) &&& 31).toUInt32).toInt32) &&& (3 : Int32))), .unset, .unset] [(.long u1), (.long ((((((u0 &&& (15 : Int32)) + (((u0.toUInt32 >>> (((4 : Int32) + ((2 : Int32) * u3)) &&& 31).toUInt32).toInt32) &&& (3 : Int32))) &&& (15 : Int32)).toInt64) <<< ((60 : Int32) &&& 0x3f).toInt64) ||| ((u3.toInt64) <<< ((56 : Int32) &&& 0x3f).toInt64)))])) rfl (hb hby d2_38) _ k) ?_
  show own_Go _ _ _ _ (s₁.setTop (mkF m 41 #[.val (.int u0), .val (.long u1), .second, .val (.long u2), .second, .val (.int u3), .val (.int (u0 &&& (15 : Int32))), .val (.int (((u0.toUInt32 >>> (((4 : Int32) + ((2 : Int32) * u3)) &&& 31).toUInt32).toInt32) &&& (3 : Int32))), .unset, .unset] [(.long (72057594037927935 : Int64)), (.long u1), (.long ((((((u0 &&& (15 : Int32)) + (((u0.toUInt32 >>> (((4 : Int32) + ((2 : Int32) * u3)) &&& 31).toUInt32).toInt32) &&& (3 : Int32))) &&& (15 : Int32)).toInt64) <<< ((60 : Int32) &&& 0x3f).toInt64) ||| ((u3.toInt64) <<< ((56 : Int32) &&& 0x3f).toInt64)))]))
  refine own_st (fun _ k => XS.land X0.here hx rfl (hb hby d2_41) rfl k) ?_
  show own_Go _ _ _ _ (s₁.setTop (mkF m 42 #[.val (.int u0), .val (.long u1), .second, .val (.long u2), .second, .val (.int u3), .val (.int (u0 &&& (15 : Int32))), .val (.int (((u0.toUInt32 >>> (((4 : Int32) + ((2 : Int32) * u3)) &&& 31).toUInt32).toInt32) &&& (3 : Int32))), .unset, .unset] [(.long (u1 &&& (72057594037927935 : Int64))), (.long ((((((u0 &&& (15 : Int32)) + (((u0.toUInt32 >>> (((4 : Int32) + ((2 : Int32) * u3)) &&& 31).toUInt32).toInt32) &&& (3 : Int32))) &&& (15 : Int32)).toInt64) <<< ((60 : Int32) &&& 0x3f).toInt64) ||| ((u3.toInt64) <<< ((56 : Int32) &&& 0x3f).toInt64)))]))
  refine own_st (fun _ k => XS.lor X0.here hx rfl (hb hby d2_42) rfl k) ?_
  show own_Go _ _ _ _ (s₁.setTop (mkF m 43 #[.val (.int u0), .val (.long u1), .second, .val (.long u2), .second, .val (.int u3), .val (.int (u0 &&& (15 : Int32))), .val (.int (((u0.toUInt32 >>> (((4 : Int32) + ((2 : Int32) * u3)) &&& 31).toUInt32).toInt32) &&& (3 : Int32))), .unset, .unset] [(.long (((((((u0 &&& (15 : Int32)) + (((u0.toUInt32 >>> (((4 : Int32) + ((2 : Int32) * u3)) &&& 31).toUInt32).toInt32) &&& (3 : Int32))) &&& (15 : Int32)).toInt64) <<< ((60 : Int32) &&& 0x3f).toInt64) ||| ((u3.toInt64) <<< ((56 : Int32) &&& 0x3f).toInt64)) ||| (u1 &&& (72057594037927935 : Int64))))]))
  refine own_st (fun _ k => XS.lstore X0.here hx rfl (hb hby d2_43) rfl (l' := #[.val (.int u0), .val (.long u1), .second, .val (.long u2), .second, .val (.int u3), .val (.int (u0 &&& (15 : Int32))), .val (.int (((u0.toUInt32 >>> (((4 : Int32) + ((2 : Int32) * u3)) &&& 31).toUInt32).toInt32) &&& (3 : Int32))), .val (.long (((((((u0 &&& (15 : Int32)) + (((u0.toUInt32 >>> (((4 : Int32) + ((2 : Int32) * u3)) &&& 31).toUInt32).toInt32) &&& (3 : Int32))) &&& (15 : Int32)).toInt64) <<< ((60 : Int32) &&& 0x3f).toInt64) ||| ((u3.toInt64) <<< ((56 : Int32) &&& 0x3f).toInt64)) ||| (u1 &&& (72057594037927935 : Int64)))), .second]) rfl k) ?_
  show own_Go _ _ _ _ (s₁.setTop (mkF m 45 #[.val (.int u0), .val (.long u1), .second, .val (.long u2), .second, .val (.int u3), .val (.int (u0 &&& (15 : Int32))), .val (.int (((u0.toUInt32 >>> (((4 : Int32) + ((2 : Int32) * u3)) &&& 31).toUInt32).toInt32) &&& (3 : Int32))), .val (.long (((((((u0 &&& (15 : Int32)) + (((u0.toUInt32 >>> (((4 : Int32) + ((2 : Int32) * u3)) &&& 31).toUInt32).toInt32) &&& (3 : Int32))) &&& (15 : Int32)).toInt64) <<< ((60 : Int32) &&& 0x3f).toInt64) ||| ((u3.toInt64) <<< ((56 : Int32) &&& 0x3f).toInt64)) ||| (u1 &&& (72057594037927935 : Int64)))), .second] []))
  refine own_st (fun _ k => XS.lload X0.here hx rfl (hb hby d2_45) rfl k) ?_
  show own_Go _ _ _ _ (s₁.setTop (mkF m 47 #[.val (.int u0), .val (.long u1), .second, .val (.long u2), .second, .val (.int u3), .val (.int (u0 &&& (15 : Int32))), .val (.int (((u0.toUInt32 >>> (((4 : Int32) + ((2 : Int32) * u3)) &&& 31).toUInt32).toInt32) &&& (3 : Int32))), .val (.long (((((((u0 &&& (15 : Int32)) + (((u0.toUInt32 >>> (((4 : Int32) + ((2 : Int32) * u3)) &&& 31).toUInt32).toInt32) &&& (3 : Int32))) &&& (15 : Int32)).toInt64) <<< ((60 : Int32) &&& 0x3f).toInt64) ||| ((u3.toInt64) <<< ((56 : Int32) &&& 0x3f).toInt64)) ||| (u1 &&& (72057594037927935 : Int64)))), .second] [(.long (((((((u0 &&& (15 : Int32)) + (((u0.toUInt32 >>> (((4 : Int32) + ((2 : Int32) * u3)) &&& 31).toUInt32).toInt32) &&& (3 : Int32))) &&& (15 : Int32)).toInt64) <<< ((60 : Int32) &&& 0x3f).toInt64) ||| ((u3.toInt64) <<< ((56 : Int32) &&& 0x3f).toInt64)) ||| (u1 &&& (72057594037927935 : Int64))))]))
  refine own_st (fun _ k => XS.lloadN X0.here hx rfl (hb hby d2_47) rfl k) ?_
  show own_Go _ _ _ _ (s₁.setTop (mkF m 48 #[.val (.int u0), .val (.long u1), .second, .val (.long u2), .second, .val (.int u3), .val (.int (u0 &&& (15 : Int32))), .val (.int (((u0.toUInt32 >>> (((4 : Int32) + ((2 : Int32) * u3)) &&& 31).toUInt32).toInt32) &&& (3 : Int32))), .val (.long (((((((u0 &&& (15 : Int32)) + (((u0.toUInt32 >>> (((4 : Int32) + ((2 : Int32) * u3)) &&& 31).toUInt32).toInt32) &&& (3 : Int32))) &&& (15 : Int32)).toInt64) <<< ((60 : Int32) &&& 0x3f).toInt64) ||| ((u3.toInt64) <<< ((56 : Int32) &&& 0x3f).toInt64)) ||| (u1 &&& (72057594037927935 : Int64)))), .second] [(.long u2), (.long (((((((u0 &&& (15 : Int32)) + (((u0.toUInt32 >>> (((4 : Int32) + ((2 : Int32) * u3)) &&& 31).toUInt32).toInt32) &&& (3 : Int32))) &&& (15 : Int32)).toInt64) <<< ((60 : Int32) &&& 0x3f).toInt64) ||| ((u3.toInt64) <<< ((56 : Int32) &&& 0x3f).toInt64)) ||| (u1 &&& (72057594037927935 : Int64))))]))
  refine own_st (fun _ k => XS.lmul X0.here hx rfl (hb hby d2_48) rfl k) ?_
  show own_Go _ _ _ _ (s₁.setTop (mkF m 49 #[.val (.int u0), .val (.long u1), .second, .val (.long u2), .second, .val (.int u3), .val (.int (u0 &&& (15 : Int32))), .val (.int (((u0.toUInt32 >>> (((4 : Int32) + ((2 : Int32) * u3)) &&& 31).toUInt32).toInt32) &&& (3 : Int32))), .val (.long (((((((u0 &&& (15 : Int32)) + (((u0.toUInt32 >>> (((4 : Int32) + ((2 : Int32) * u3)) &&& 31).toUInt32).toInt32) &&& (3 : Int32))) &&& (15 : Int32)).toInt64) <<< ((60 : Int32) &&& 0x3f).toInt64) ||| ((u3.toInt64) <<< ((56 : Int32) &&& 0x3f).toInt64)) ||| (u1 &&& (72057594037927935 : Int64)))), .second] [(.long ((((((((u0 &&& (15 : Int32)) + (((u0.toUInt32 >>> (((4 : Int32) + ((2 : Int32) * u3)) &&& 31).toUInt32).toInt32) &&& (3 : Int32))) &&& (15 : Int32)).toInt64) <<< ((60 : Int32) &&& 0x3f).toInt64) ||| ((u3.toInt64) <<< ((56 : Int32) &&& 0x3f).toInt64)) ||| (u1 &&& (72057594037927935 : Int64))) * u2))]))
  obtain ⟨fs, hr, hrun, hended, hW, hsame⟩ := X0.leave (v := some (.long ((((((((u0 &&& (15 : Int32)) + (((u0.toUInt32 >>> (((4 : Int32) + ((2 : Int32) * u3)) &&& 31).toUInt32).toInt32) &&& (3 : Int32))) &&& (15 : Int32)).toInt64) <<< ((60 : Int32) &&& 0x3f).toInt64) ||| ((u3.toInt64) <<< ((56 : Int32) &&& 0x3f).toInt64)) ||| (u1 &&& (72057594037927935 : Int64))) * u2))) (fun h => by rw [Bd.returns] at h; cases h)
  refine own_out (X0.lreturnOut hx Bd.returns (hb hby d2_49) hr) ⟨hrun, hended, _, _, rfl, ?_, ⟨_, rfl⟩, hW, hsame.mono (by decide) (by decide)⟩
  show Q2 Z u0 u1 u2 u3 h0 n0 _ s₁.heap _
  have hv : own_key u0 u1 u2 u3 = ((((((((u0 &&& (15 : Int32)) + (((u0.toUInt32 >>> (((4 : Int32) + ((2 : Int32) * u3)) &&& 31).toUInt32).toInt32) &&& (3 : Int32))) &&& (15 : Int32)).toInt64) <<< ((60 : Int32) &&& 0x3f).toInt64) ||| ((u3.toInt64) <<< ((56 : Int32) &&& 0x3f).toInt64)) ||| (u1 &&& (72057594037927935 : Int64))) * u2) := rfl
  exact ⟨by rw [hv], N0, e0⟩
def own_val (u0 : Int64) (u1 : Int32) : Int64 := ((u0 <<< ((3 : Int32) &&& 0x3f).toInt64) ||| ((u1 + (1 : Int32)).toInt64))
theorem d3_0 : decode method_4_code 0 = .ok (.lload_n 0, 1) := by decide +kernel
theorem d3_1 : decode method_4_code 1 = .ok (.iconst 3, 1) := by decide +kernel
theorem d3_2 : decode method_4_code 2 = .ok (.lshl, 1) := by decide +kernel
theorem d3_3 : decode method_4_code 3 = .ok (.iload_n 2, 1) := by decide +kernel
theorem d3_4 : decode method_4_code 4 = .ok (.iconst 1, 1) := by decide +kernel
theorem d3_5 : decode method_4_code 5 = .ok (.iadd, 1) := by decide +kernel
theorem d3_6 : decode method_4_code 6 = .ok (.i2l, 1) := by decide +kernel
theorem d3_7 : decode method_4_code 7 = .ok (.lor, 1) := by decide +kernel
theorem d3_8 : decode method_4_code 8 = .ok (.lreturn, 1) := by decide +kernel
theorem own_pd2 : parseMethodDescriptor "(JI)J" = some ⟨[.long, .int], some .long⟩ := by decide +kernel
def Q3 (Z : State) (u0 : Int64) (u1 : Int32) (h0 : Heap) (n0 : Nat) (v : Option Value) (h : Heap) (L : List Loc) : Prop := v = some (.long (own_val u0 u1)) ∧ Fr n0 L ∧ h = h0
theorem ef_3 (m : MethodId) (x0 : Int64) (x1 : Int32) : entryFrame m #[(.long x0), (.int x1)] 3 = mkF m 0 #[.val (.long x0), .second, .val (.int x1)] [] := by first | (simp [entryFrame, mkF, argsToLocals, Value.category]; done) | rfl
set_option maxRecDepth 65536 in
set_option maxHeartbeats 40000000 in
theorem rm3 (l : Launch) (Z : State) (a0 : Array Value) (hw : ∀ d ∈ tables_1, d.before a0 Z = true) (ws : List Jvm.Cond) (u0 : Int64) (u1 : Int32) (h0 : Heap) (n0 : Nat) (Z0 : n0 ≤ h0.size)  :
    MetFree l (⟨"quillvax/store/LongMapRemovePinLaw", "value", "(JI)J"⟩ : MethodName) (head1 (Jvm.Cond.code (⟨"quillvax/store/LongMapRemovePinLaw", "value", "(JI)J"⟩ : MethodName) method_4_code 3 (some .long) :: ws) ({ frames := 0, cells := 0, slots := 0, locals := 0 } : Room)) (fun a U => a = #[(.long u0), (.int u1)] ∧ Z.Warmed39 U.vm ∧ U.heap = h0) (fun _ _ _ _ _ => True) (fun _ U o U' => ∃ v L, o = .returned v ∧ Q3 Z u0 u1 h0 n0 v U'.heap L ∧ FrameEnd U o U' L ({ frames := 0, cells := 0, slots := 0, locals := 0 } : Room).cells ({ frames := 0, cells := 0, slots := 0, locals := 0 } : Room).slots) := by
  refine MetFree.of_bodySF (plainFor_of_name own_pn0) hisR ?_
  intro p e s m args below meth c s₁ Bd hml0 hP hK
  obtain ⟨rfl, hZ, hh⟩ := hP
  have hx := Bd.exec
  have hby := Bd.bytes
  have hml : c.maxLocals = 3 := hml0
  have hown : s.vm.findClass "quillvax/store/LongMapRemovePinLaw" = some m.cls := findClass_of_methodNamed Bd.named
  have hnm := (name_of_methodNamed Bd.named Bd.method).1
  have X0 : Stand p l e ({ frames := 0, cells := 0, slots := 0, locals := 0 } : Room) s m #[(.long u0), (.int u1)] below meth c s₁ [] 0 0 := Stand.of_body Bd
  have e0 : s₁.heap = h0 := by rw [← hh, Bd.state]; rfl
  have N0 := Fr.nil n0
  refine own_in ?_
  refine own_st (fun _ k => castTop (ef_3 m u0 u1) k) ?_
  have K0 : Keep h0 h0 [] := Keep.refl h0 []
  show own_Go _ _ _ _ (s₁.setTop (mkF m 0 #[.val (.long u0), .second, .val (.int u1)] []))
  refine own_st (fun _ k => XS.lloadN X0.here hx rfl (hb hby d3_0) rfl k) ?_
  show own_Go _ _ _ _ (s₁.setTop (mkF m 1 #[.val (.long u0), .second, .val (.int u1)] [(.long u0)]))
  refine own_st (fun _ k => XS.iconst X0.here hx rfl (hb hby d3_1) k) ?_
  show own_Go _ _ _ _ (s₁.setTop (mkF m 2 #[.val (.long u0), .second, .val (.int u1)] [(.int (3 : Int32)), (.long u0)]))
  refine own_st (fun _ k => XS.lshl X0.here hx rfl (hb hby d3_2) rfl k) ?_
  show own_Go _ _ _ _ (s₁.setTop (mkF m 3 #[.val (.long u0), .second, .val (.int u1)] [(.long (u0 <<< ((3 : Int32) &&& 0x3f).toInt64))]))
  refine own_st (fun _ k => XS.iloadN X0.here hx rfl (hb hby d3_3) rfl k) ?_
  show own_Go _ _ _ _ (s₁.setTop (mkF m 4 #[.val (.long u0), .second, .val (.int u1)] [(.int u1), (.long (u0 <<< ((3 : Int32) &&& 0x3f).toInt64))]))
  refine own_st (fun _ k => XS.iconst X0.here hx rfl (hb hby d3_4) k) ?_
  show own_Go _ _ _ _ (s₁.setTop (mkF m 5 #[.val (.long u0), .second, .val (.int u1)] [(.int (1 : Int32)), (.int u1), (.long (u0 <<< ((3 : Int32) &&& 0x3f).toInt64))]))
  refine own_st (fun _ k => XS.iadd X0.here hx rfl (hb hby d3_5) rfl k) ?_
  show own_Go _ _ _ _ (s₁.setTop (mkF m 6 #[.val (.long u0), .second, .val (.int u1)] [(.int (u1 + (1 : Int32))), (.long (u0 <<< ((3 : Int32) &&& 0x3f).toInt64))]))
  refine own_st (fun _ k => XS.i2l X0.here hx rfl (hb hby d3_6) rfl k) ?_
  show own_Go _ _ _ _ (s₁.setTop (mkF m 7 #[.val (.long u0), .second, .val (.int u1)] [(.long ((u1 + (1 : Int32)).toInt64)), (.long (u0 <<< ((3 : Int32) &&& 0x3f).toInt64))]))
  refine own_st (fun _ k => XS.lor X0.here hx rfl (hb hby d3_7) rfl k) ?_
  show own_Go _ _ _ _ (s₁.setTop (mkF m 8 #[.val (.long u0), .second, .val (.int u1)] [(.long ((u0 <<< ((3 : Int32) &&& 0x3f).toInt64) ||| ((u1 + (1 : Int32)).toInt64)))]))
  obtain ⟨fs, hr, hrun, hended, hW, hsame⟩ := X0.leave (v := some (.long ((u0 <<< ((3 : Int32) &&& 0x3f).toInt64) ||| ((u1 + (1 : Int32)).toInt64)))) (fun h => by rw [Bd.returns] at h; cases h)
  refine own_out (X0.lreturnOut hx Bd.returns (hb hby d3_8) hr) ⟨hrun, hended, _, _, rfl, ?_, ⟨_, rfl⟩, hW, hsame.mono (by decide) (by decide)⟩
  show Q3 Z u0 u1 h0 n0 _ s₁.heap _
  have hv : own_val u0 u1 = ((u0 <<< ((3 : Int32) &&& 0x3f).toInt64) ||| ((u1 + (1 : Int32)).toInt64)) := rfl
  exact ⟨by rw [hv], N0, e0⟩
def own_ntz (u0 : Int32) : Int32 := (if (0 : Int32) < ((u0 ^^^ (-1 : Int32)) &&& (u0 - (1 : Int32))) then (if (65536 : Int32) < ((u0 ^^^ (-1 : Int32)) &&& (u0 - (1 : Int32))) then (if (256 : Int32) < ((((u0 ^^^ (-1 : Int32)) &&& (u0 - (1 : Int32))).toUInt32 >>> ((16 : Int32) &&& 31).toUInt32).toInt32) then (if (16 : Int32) < ((((((u0 ^^^ (-1 : Int32)) &&& (u0 - (1 : Int32))).toUInt32 >>> ((16 : Int32) &&& 31).toUInt32).toInt32).toUInt32 >>> ((8 : Int32) &&& 31).toUInt32).toInt32) then (if (4 : Int32) < ((((((((u0 ^^^ (-1 : Int32)) &&& (u0 - (1 : Int32))).toUInt32 >>> ((16 : Int32) &&& 31).toUInt32).toInt32).toUInt32 >>> ((8 : Int32) &&& 31).toUInt32).toInt32).toUInt32 >>> ((4 : Int32) &&& 31).toUInt32).toInt32) then ((31 : Int32) + ((((((((((((u0 ^^^ (-1 : Int32)) &&& (u0 - (1 : Int32))).toUInt32 >>> ((16 : Int32) &&& 31).toUInt32).toInt32).toUInt32 >>> ((8 : Int32) &&& 31).toUInt32).toInt32).toUInt32 >>> ((4 : Int32) &&& 31).toUInt32).toInt32).toUInt32 >>> ((2 : Int32) &&& 31).toUInt32).toInt32).toUInt32 >>> ((1 : Int32) &&& 31).toUInt32).toInt32)) else ((29 : Int32) + ((((((((((u0 ^^^ (-1 : Int32)) &&& (u0 - (1 : Int32))).toUInt32 >>> ((16 : Int32) &&& 31).toUInt32).toInt32).toUInt32 >>> ((8 : Int32) &&& 31).toUInt32).toInt32).toUInt32 >>> ((4 : Int32) &&& 31).toUInt32).toInt32).toUInt32 >>> ((1 : Int32) &&& 31).toUInt32).toInt32))) else (if (4 : Int32) < ((((((u0 ^^^ (-1 : Int32)) &&& (u0 - (1 : Int32))).toUInt32 >>> ((16 : Int32) &&& 31).toUInt32).toInt32).toUInt32 >>> ((8 : Int32) &&& 31).toUInt32).toInt32) then ((27 : Int32) + ((((((((((u0 ^^^ (-1 : Int32)) &&& (u0 - (1 : Int32))).toUInt32 >>> ((16 : Int32) &&& 31).toUInt32).toInt32).toUInt32 >>> ((8 : Int32) &&& 31).toUInt32).toInt32).toUInt32 >>> ((2 : Int32) &&& 31).toUInt32).toInt32).toUInt32 >>> ((1 : Int32) &&& 31).toUInt32).toInt32)) else ((25 : Int32) + ((((((((u0 ^^^ (-1 : Int32)) &&& (u0 - (1 : Int32))).toUInt32 >>> ((16 : Int32) &&& 31).toUInt32).toInt32).toUInt32 >>> ((8 : Int32) &&& 31).toUInt32).toInt32).toUInt32 >>> ((1 : Int32) &&& 31).toUInt32).toInt32)))) else (if (16 : Int32) < ((((u0 ^^^ (-1 : Int32)) &&& (u0 - (1 : Int32))).toUInt32 >>> ((16 : Int32) &&& 31).toUInt32).toInt32) then (if (4 : Int32) < ((((((u0 ^^^ (-1 : Int32)) &&& (u0 - (1 : Int32))).toUInt32 >>> ((16 : Int32) &&& 31).toUInt32).toInt32).toUInt32 >>> ((4 : Int32) &&& 31).toUInt32).toInt32) then ((23 : Int32) + ((((((((((u0 ^^^ (-1 : Int32)) &&& (u0 - (1 : Int32))).toUInt32 >>> ((16 : Int32) &&& 31).toUInt32).toInt32).toUInt32 >>> ((4 : Int32) &&& 31).toUInt32).toInt32).toUInt32 >>> ((2 : Int32) &&& 31).toUInt32).toInt32).toUInt32 >>> ((1 : Int32) &&& 31).toUInt32).toInt32)) else ((21 : Int32) + ((((((((u0 ^^^ (-1 : Int32)) &&& (u0 - (1 : Int32))).toUInt32 >>> ((16 : Int32) &&& 31).toUInt32).toInt32).toUInt32 >>> ((4 : Int32) &&& 31).toUInt32).toInt32).toUInt32 >>> ((1 : Int32) &&& 31).toUInt32).toInt32))) else (if (4 : Int32) < ((((u0 ^^^ (-1 : Int32)) &&& (u0 - (1 : Int32))).toUInt32 >>> ((16 : Int32) &&& 31).toUInt32).toInt32) then ((19 : Int32) + ((((((((u0 ^^^ (-1 : Int32)) &&& (u0 - (1 : Int32))).toUInt32 >>> ((16 : Int32) &&& 31).toUInt32).toInt32).toUInt32 >>> ((2 : Int32) &&& 31).toUInt32).toInt32).toUInt32 >>> ((1 : Int32) &&& 31).toUInt32).toInt32)) else ((17 : Int32) + ((((((u0 ^^^ (-1 : Int32)) &&& (u0 - (1 : Int32))).toUInt32 >>> ((16 : Int32) &&& 31).toUInt32).toInt32).toUInt32 >>> ((1 : Int32) &&& 31).toUInt32).toInt32))))) else (if (256 : Int32) < ((u0 ^^^ (-1 : Int32)) &&& (u0 - (1 : Int32))) then (if (16 : Int32) < ((((u0 ^^^ (-1 : Int32)) &&& (u0 - (1 : Int32))).toUInt32 >>> ((8 : Int32) &&& 31).toUInt32).toInt32) then (if (4 : Int32) < ((((((u0 ^^^ (-1 : Int32)) &&& (u0 - (1 : Int32))).toUInt32 >>> ((8 : Int32) &&& 31).toUInt32).toInt32).toUInt32 >>> ((4 : Int32) &&& 31).toUInt32).toInt32) then ((15 : Int32) + ((((((((((u0 ^^^ (-1 : Int32)) &&& (u0 - (1 : Int32))).toUInt32 >>> ((8 : Int32) &&& 31).toUInt32).toInt32).toUInt32 >>> ((4 : Int32) &&& 31).toUInt32).toInt32).toUInt32 >>> ((2 : Int32) &&& 31).toUInt32).toInt32).toUInt32 >>> ((1 : Int32) &&& 31).toUInt32).toInt32)) else ((13 : Int32) + ((((((((u0 ^^^ (-1 : Int32)) &&& (u0 - (1 : Int32))).toUInt32 >>> ((8 : Int32) &&& 31).toUInt32).toInt32).toUInt32 >>> ((4 : Int32) &&& 31).toUInt32).toInt32).toUInt32 >>> ((1 : Int32) &&& 31).toUInt32).toInt32))) else (if (4 : Int32) < ((((u0 ^^^ (-1 : Int32)) &&& (u0 - (1 : Int32))).toUInt32 >>> ((8 : Int32) &&& 31).toUInt32).toInt32) then ((11 : Int32) + ((((((((u0 ^^^ (-1 : Int32)) &&& (u0 - (1 : Int32))).toUInt32 >>> ((8 : Int32) &&& 31).toUInt32).toInt32).toUInt32 >>> ((2 : Int32) &&& 31).toUInt32).toInt32).toUInt32 >>> ((1 : Int32) &&& 31).toUInt32).toInt32)) else ((9 : Int32) + ((((((u0 ^^^ (-1 : Int32)) &&& (u0 - (1 : Int32))).toUInt32 >>> ((8 : Int32) &&& 31).toUInt32).toInt32).toUInt32 >>> ((1 : Int32) &&& 31).toUInt32).toInt32)))) else (if (16 : Int32) < ((u0 ^^^ (-1 : Int32)) &&& (u0 - (1 : Int32))) then (if (4 : Int32) < ((((u0 ^^^ (-1 : Int32)) &&& (u0 - (1 : Int32))).toUInt32 >>> ((4 : Int32) &&& 31).toUInt32).toInt32) then ((7 : Int32) + ((((((((u0 ^^^ (-1 : Int32)) &&& (u0 - (1 : Int32))).toUInt32 >>> ((4 : Int32) &&& 31).toUInt32).toInt32).toUInt32 >>> ((2 : Int32) &&& 31).toUInt32).toInt32).toUInt32 >>> ((1 : Int32) &&& 31).toUInt32).toInt32)) else ((5 : Int32) + ((((((u0 ^^^ (-1 : Int32)) &&& (u0 - (1 : Int32))).toUInt32 >>> ((4 : Int32) &&& 31).toUInt32).toInt32).toUInt32 >>> ((1 : Int32) &&& 31).toUInt32).toInt32))) else (if (4 : Int32) < ((u0 ^^^ (-1 : Int32)) &&& (u0 - (1 : Int32))) then ((3 : Int32) + ((((((u0 ^^^ (-1 : Int32)) &&& (u0 - (1 : Int32))).toUInt32 >>> ((2 : Int32) &&& 31).toUInt32).toInt32).toUInt32 >>> ((1 : Int32) &&& 31).toUInt32).toInt32)) else ((1 : Int32) + ((((u0 ^^^ (-1 : Int32)) &&& (u0 - (1 : Int32))).toUInt32 >>> ((1 : Int32) &&& 31).toUInt32).toInt32)))))) else (((u0 ^^^ (-1 : Int32)) &&& (u0 - (1 : Int32))) &&& (32 : Int32)))
theorem d6_0 : decode jdk_33_method_48_code 0 = .ok (.iload_n 0, 1) := by decide +kernel
theorem d6_1 : decode jdk_33_method_48_code 1 = .ok (.iconst (-1), 1) := by decide +kernel
theorem d6_2 : decode jdk_33_method_48_code 2 = .ok (.ixor, 1) := by decide +kernel
theorem d6_3 : decode jdk_33_method_48_code 3 = .ok (.iload_n 0, 1) := by decide +kernel
theorem d6_4 : decode jdk_33_method_48_code 4 = .ok (.iconst 1, 1) := by decide +kernel
theorem d6_5 : decode jdk_33_method_48_code 5 = .ok (.isub, 1) := by decide +kernel
theorem d6_6 : decode jdk_33_method_48_code 6 = .ok (.iand, 1) := by decide +kernel
theorem d6_7 : decode jdk_33_method_48_code 7 = .ok (.istore_n 0, 1) := by decide +kernel
theorem d6_8 : decode jdk_33_method_48_code 8 = .ok (.iload_n 0, 1) := by decide +kernel
theorem d6_9 : decode jdk_33_method_48_code 9 = .ok (.ifCond .gt 8, 3) := by decide +kernel
theorem d6_12 : decode jdk_33_method_48_code 12 = .ok (.iload_n 0, 1) := by decide +kernel
theorem d6_13 : decode jdk_33_method_48_code 13 = .ok (.bipush 32, 2) := by decide +kernel
theorem d6_15 : decode jdk_33_method_48_code 15 = .ok (.iand, 1) := by decide +kernel
theorem d6_16 : decode jdk_33_method_48_code 16 = .ok (.ireturn, 1) := by decide +kernel
theorem d6_17 : decode jdk_33_method_48_code 17 = .ok (.iconst 1, 1) := by decide +kernel
theorem d6_18 : decode jdk_33_method_48_code 18 = .ok (.istore_n 1, 1) := by decide +kernel
theorem d6_19 : decode jdk_33_method_48_code 19 = .ok (.iload_n 0, 1) := by decide +kernel
theorem d6_20 : decode jdk_33_method_48_code 20 = .ok (.ldc_w 264, 3) := by decide +kernel
theorem d6_23 : decode jdk_33_method_48_code 23 = .ok (.if_icmp .le 11, 3) := by decide +kernel
theorem d6_26 : decode jdk_33_method_48_code 26 = .ok (.iinc 1 16, 3) := by decide +kernel
theorem d6_29 : decode jdk_33_method_48_code 29 = .ok (.iload_n 0, 1) := by decide +kernel
theorem d6_30 : decode jdk_33_method_48_code 30 = .ok (.bipush 16, 2) := by decide +kernel
theorem d6_32 : decode jdk_33_method_48_code 32 = .ok (.iushr, 1) := by decide +kernel
theorem d6_33 : decode jdk_33_method_48_code 33 = .ok (.istore_n 0, 1) := by decide +kernel
theorem d6_34 : decode jdk_33_method_48_code 34 = .ok (.iload_n 0, 1) := by decide +kernel
theorem d6_35 : decode jdk_33_method_48_code 35 = .ok (.sipush 256, 3) := by decide +kernel
theorem d6_38 : decode jdk_33_method_48_code 38 = .ok (.if_icmp .le 11, 3) := by decide +kernel
theorem d6_41 : decode jdk_33_method_48_code 41 = .ok (.iinc 1 8, 3) := by decide +kernel
theorem d6_44 : decode jdk_33_method_48_code 44 = .ok (.iload_n 0, 1) := by decide +kernel
theorem d6_45 : decode jdk_33_method_48_code 45 = .ok (.bipush 8, 2) := by decide +kernel
theorem d6_47 : decode jdk_33_method_48_code 47 = .ok (.iushr, 1) := by decide +kernel
theorem d6_48 : decode jdk_33_method_48_code 48 = .ok (.istore_n 0, 1) := by decide +kernel
theorem d6_49 : decode jdk_33_method_48_code 49 = .ok (.iload_n 0, 1) := by decide +kernel
theorem d6_50 : decode jdk_33_method_48_code 50 = .ok (.bipush 16, 2) := by decide +kernel
theorem d6_52 : decode jdk_33_method_48_code 52 = .ok (.if_icmp .le 10, 3) := by decide +kernel
theorem d6_55 : decode jdk_33_method_48_code 55 = .ok (.iinc 1 4, 3) := by decide +kernel
theorem d6_58 : decode jdk_33_method_48_code 58 = .ok (.iload_n 0, 1) := by decide +kernel
theorem d6_59 : decode jdk_33_method_48_code 59 = .ok (.iconst 4, 1) := by decide +kernel
theorem d6_60 : decode jdk_33_method_48_code 60 = .ok (.iushr, 1) := by decide +kernel
theorem d6_61 : decode jdk_33_method_48_code 61 = .ok (.istore_n 0, 1) := by decide +kernel
theorem d6_62 : decode jdk_33_method_48_code 62 = .ok (.iload_n 0, 1) := by decide +kernel
theorem d6_63 : decode jdk_33_method_48_code 63 = .ok (.iconst 4, 1) := by decide +kernel
theorem d6_64 : decode jdk_33_method_48_code 64 = .ok (.if_icmp .le 10, 3) := by decide +kernel
theorem d6_67 : decode jdk_33_method_48_code 67 = .ok (.iinc 1 2, 3) := by decide +kernel
theorem d6_70 : decode jdk_33_method_48_code 70 = .ok (.iload_n 0, 1) := by decide +kernel
theorem d6_71 : decode jdk_33_method_48_code 71 = .ok (.iconst 2, 1) := by decide +kernel
theorem d6_72 : decode jdk_33_method_48_code 72 = .ok (.iushr, 1) := by decide +kernel
theorem d6_73 : decode jdk_33_method_48_code 73 = .ok (.istore_n 0, 1) := by decide +kernel
theorem d6_74 : decode jdk_33_method_48_code 74 = .ok (.iload_n 1, 1) := by decide +kernel
theorem d6_75 : decode jdk_33_method_48_code 75 = .ok (.iload_n 0, 1) := by decide +kernel
theorem d6_76 : decode jdk_33_method_48_code 76 = .ok (.iconst 1, 1) := by decide +kernel
theorem d6_77 : decode jdk_33_method_48_code 77 = .ok (.iushr, 1) := by decide +kernel
theorem d6_78 : decode jdk_33_method_48_code 78 = .ok (.iadd, 1) := by decide +kernel
theorem d6_79 : decode jdk_33_method_48_code 79 = .ok (.ireturn, 1) := by decide +kernel
theorem own_pd3 : parseMethodDescriptor "(I)I" = some ⟨[.int], some .int⟩ := by decide +kernel
theorem own_pn1 : plainName "java/lang/Integer" = true := by first | (simp [plainName, overriddenIn]; done) | decide +kernel
def Q6 (Z : State) (u0 : Int32) (h0 : Heap) (n0 : Nat) (v : Option Value) (h : Heap) (L : List Loc) : Prop := v = some (.int (own_ntz u0)) ∧ Fr n0 L ∧ h = h0
theorem ef_6 (m : MethodId) (x0 : Int32) : entryFrame m #[(.int x0)] 2 = mkF m 0 #[.val (.int x0), .unset] [] := by first | (simp [entryFrame, mkF, argsToLocals, Value.category]; done) | rfl
set_option maxRecDepth 65536 in
set_option maxHeartbeats 40000000 in
theorem rm6 (l : Launch) (Z : State) (a0 : Array Value) (hw : ∀ d ∈ tables_1, d.before a0 Z = true) (ws : List Jvm.Cond) (u0 : Int32) (h0 : Heap) (n0 : Nat) (Z0 : n0 ≤ h0.size)  :
    MetFree l (⟨"java/lang/Integer", "numberOfTrailingZeros", "(I)I"⟩ : MethodName) (head1 (Jvm.Cond.code (⟨"java/lang/Integer", "numberOfTrailingZeros", "(I)I"⟩ : MethodName) jdk_33_method_48_code 2 (some .int) :: ws) ({ frames := 0, cells := 0, slots := 0, locals := 0 } : Room)) (fun a U => a = #[(.int u0)] ∧ Z.Warmed39 U.vm ∧ U.heap = h0) (fun _ _ _ _ _ => True) (fun _ U o U' => ∃ v L, o = .returned v ∧ Q6 Z u0 h0 n0 v U'.heap L ∧ FrameEnd U o U' L ({ frames := 0, cells := 0, slots := 0, locals := 0 } : Room).cells ({ frames := 0, cells := 0, slots := 0, locals := 0 } : Room).slots) := by
  refine MetFree.of_bodySF (plainFor_of_name own_pn1) hisR ?_
  intro p e s m args below meth c s₁ Bd hml0 hP hK
  obtain ⟨rfl, hZ, hh⟩ := hP
  have hx := Bd.exec
  have hby := Bd.bytes
  have hml : c.maxLocals = 2 := hml0
  have hown : s.vm.findClass "java/lang/Integer" = some m.cls := findClass_of_methodNamed Bd.named
  have hnm := (name_of_methodNamed Bd.named Bd.method).1
  have X0 : Stand p l e ({ frames := 0, cells := 0, slots := 0, locals := 0 } : Room) s m #[(.int u0)] below meth c s₁ [] 0 0 := Stand.of_body Bd
  have e0 : s₁.heap = h0 := by rw [← hh, Bd.state]; rfl
  have N0 := Fr.nil n0
  refine own_in ?_
  refine own_st (fun _ k => castTop (ef_6 m u0) k) ?_
  have K0 : Keep h0 h0 [] := Keep.refl h0 []
  show own_Go _ _ _ _ (s₁.setTop (mkF m 0 #[.val (.int u0), .unset] []))
  refine own_st (fun _ k => XS.iloadN X0.here hx rfl (hb hby d6_0) rfl k) ?_
  show own_Go _ _ _ _ (s₁.setTop (mkF m 1 #[.val (.int u0), .unset] [(.int u0)]))
  refine own_st (fun _ k => XS.iconst X0.here hx rfl (hb hby d6_1) k) ?_
  show own_Go _ _ _ _ (s₁.setTop (mkF m 2 #[.val (.int u0), .unset] [(.int (-1 : Int32)), (.int u0)]))
  refine own_st (fun _ k => XS.ixor X0.here hx rfl (hb hby d6_2) rfl k) ?_
  show own_Go _ _ _ _ (s₁.setTop (mkF m 3 #[.val (.int u0), .unset] [(.int (u0 ^^^ (-1 : Int32)))]))
  refine own_st (fun _ k => XS.iloadN X0.here hx rfl (hb hby d6_3) rfl k) ?_
  show own_Go _ _ _ _ (s₁.setTop (mkF m 4 #[.val (.int u0), .unset] [(.int u0), (.int (u0 ^^^ (-1 : Int32)))]))
  refine own_st (fun _ k => XS.iconst X0.here hx rfl (hb hby d6_4) k) ?_
  show own_Go _ _ _ _ (s₁.setTop (mkF m 5 #[.val (.int u0), .unset] [(.int (1 : Int32)), (.int u0), (.int (u0 ^^^ (-1 : Int32)))]))
  refine own_st (fun _ k => XS.isub X0.here hx rfl (hb hby d6_5) rfl k) ?_
  show own_Go _ _ _ _ (s₁.setTop (mkF m 6 #[.val (.int u0), .unset] [(.int (u0 - (1 : Int32))), (.int (u0 ^^^ (-1 : Int32)))]))
  refine own_st (fun _ k => XS.iand X0.here hx rfl (hb hby d6_6) rfl k) ?_
  show own_Go _ _ _ _ (s₁.setTop (mkF m 7 #[.val (.int u0), .unset] [(.int ((u0 ^^^ (-1 : Int32)) &&& (u0 - (1 : Int32))))]))
  refine own_st (fun _ k => XS.istoreN X0.here hx rfl (hb hby d6_7) rfl (l' := #[.val (.int ((u0 ^^^ (-1 : Int32)) &&& (u0 - (1 : Int32)))), .unset]) rfl k) ?_
  show own_Go _ _ _ _ (s₁.setTop (mkF m 8 #[.val (.int ((u0 ^^^ (-1 : Int32)) &&& (u0 - (1 : Int32)))), .unset] []))
  refine own_st (fun _ k => XS.iloadN X0.here hx rfl (hb hby d6_8) rfl k) ?_
  show own_Go _ _ _ _ (s₁.setTop (mkF m 9 #[.val (.int ((u0 ^^^ (-1 : Int32)) &&& (u0 - (1 : Int32)))), .unset] [(.int ((u0 ^^^ (-1 : Int32)) &&& (u0 - (1 : Int32))))]))
  by_cases hc1 : (0 : Int32) < ((u0 ^^^ (-1 : Int32)) &&& (u0 - (1 : Int32)))
  · skip
    refine own_st (fun _ k => XS.ifYes X0.here hx rfl (pc0 := 9) (pc' := 17) rfl (hb hby d6_9) rfl ((if0 _ _).trans (tlt hc1).2.2.1) (by decide) (by decide) k) ?_
    show own_Go _ _ _ _ (s₁.setTop (mkF m 17 #[.val (.int ((u0 ^^^ (-1 : Int32)) &&& (u0 - (1 : Int32)))), .unset] []))
    refine own_st (fun _ k => XS.iconst X0.here hx rfl (hb hby d6_17) k) ?_
    show own_Go _ _ _ _ (s₁.setTop (mkF m 18 #[.val (.int ((u0 ^^^ (-1 : Int32)) &&& (u0 - (1 : Int32)))), .unset] [(.int (1 : Int32))]))
    refine own_st (fun _ k => XS.istoreN X0.here hx rfl (hb hby d6_18) rfl (l' := #[.val (.int ((u0 ^^^ (-1 : Int32)) &&& (u0 - (1 : Int32)))), .val (.int (1 : Int32))]) rfl k) ?_
    show own_Go _ _ _ _ (s₁.setTop (mkF m 19 #[.val (.int ((u0 ^^^ (-1 : Int32)) &&& (u0 - (1 : Int32)))), .val (.int (1 : Int32))] []))
    refine own_st (fun _ k => XS.iloadN X0.here hx rfl (hb hby d6_19) rfl k) ?_
    show own_Go _ _ _ _ (s₁.setTop (mkF m 20 #[.val (.int ((u0 ^^^ (-1 : Int32)) &&& (u0 - (1 : Int32)))), .val (.int (1 : Int32))] [(.int ((u0 ^^^ (-1 : Int32)) &&& (u0 - (1 : Int32))))]))
    refine own_st (fun _ k => X0.ldcWInt hx hown (mvT hZ (hw _ (List.mem_of_getElem? (i := 31) rfl))) (g := (mkF m 20 #[.val (.int ((u0 ^^^ (-1 : Int32)) &&& (u0 - (1 : Int32)))), .val (.int (1 : Int32))] [(.int ((u0 ^^^ (-1 : Int32)) &&& (u0 - (1 : Int32))))])) rfl (hb hby d6_20) _ k) ?_
    show own_Go _ _ _ _ (s₁.setTop (mkF m 23 #[.val (.int ((u0 ^^^ (-1 : Int32)) &&& (u0 - (1 : Int32)))), .val (.int (1 : Int32))] [(.int (65536 : Int32)), (.int ((u0 ^^^ (-1 : Int32)) &&& (u0 - (1 : Int32))))]))
    by_cases hc2 : (65536 : Int32) < ((u0 ^^^ (-1 : Int32)) &&& (u0 - (1 : Int32)))
    · skip
      refine own_st (fun _ k => XS.icmpNo X0.here hx rfl (hb hby d6_23) rfl (tlt hc2).2.2.2 k) ?_
      show own_Go _ _ _ _ (s₁.setTop (mkF m 26 #[.val (.int ((u0 ^^^ (-1 : Int32)) &&& (u0 - (1 : Int32)))), .val (.int (1 : Int32))] []))
      refine own_st (fun _ k => XS.iinc X0.here hx rfl (hb hby d6_26) rfl (l' := #[.val (.int ((u0 ^^^ (-1 : Int32)) &&& (u0 - (1 : Int32)))), .val (.int (17 : Int32))]) rfl k) ?_
      show own_Go _ _ _ _ (s₁.setTop (mkF m 29 #[.val (.int ((u0 ^^^ (-1 : Int32)) &&& (u0 - (1 : Int32)))), .val (.int (17 : Int32))] []))
      refine own_st (fun _ k => XS.iloadN X0.here hx rfl (hb hby d6_29) rfl k) ?_
      show own_Go _ _ _ _ (s₁.setTop (mkF m 30 #[.val (.int ((u0 ^^^ (-1 : Int32)) &&& (u0 - (1 : Int32)))), .val (.int (17 : Int32))] [(.int ((u0 ^^^ (-1 : Int32)) &&& (u0 - (1 : Int32))))]))
      refine own_st (fun _ k => XS.bipush X0.here hx rfl (hb hby d6_30) k) ?_
      show own_Go _ _ _ _ (s₁.setTop (mkF m 32 #[.val (.int ((u0 ^^^ (-1 : Int32)) &&& (u0 - (1 : Int32)))), .val (.int (17 : Int32))] [(.int (16 : Int32)), (.int ((u0 ^^^ (-1 : Int32)) &&& (u0 - (1 : Int32))))]))
      refine own_st (fun _ k => XS.iushr X0.here hx rfl (hb hby d6_32) rfl k) ?_
      show own_Go _ _ _ _ (s₁.setTop (mkF m 33 #[.val (.int ((u0 ^^^ (-1 : Int32)) &&& (u0 - (1 : Int32)))), .val (.int (17 : Int32))] [(.int ((((u0 ^^^ (-1 : Int32)) &&& (u0 - (1 : Int32))).toUInt32 >>> ((16 : Int32) &&& 31).toUInt32).toInt32))]))
      refine own_st (fun _ k => XS.istoreN X0.here hx rfl (hb hby d6_33) rfl (l' := #[.val (.int ((((u0 ^^^ (-1 : Int32)) &&& (u0 - (1 : Int32))).toUInt32 >>> ((16 : Int32) &&& 31).toUInt32).toInt32)), .val (.int (17 : Int32))]) rfl k) ?_
      show own_Go _ _ _ _ (s₁.setTop (mkF m 34 #[.val (.int ((((u0 ^^^ (-1 : Int32)) &&& (u0 - (1 : Int32))).toUInt32 >>> ((16 : Int32) &&& 31).toUInt32).toInt32)), .val (.int (17 : Int32))] []))
      refine own_st (fun _ k => XS.iloadN X0.here hx rfl (hb hby d6_34) rfl k) ?_
      show own_Go _ _ _ _ (s₁.setTop (mkF m 35 #[.val (.int ((((u0 ^^^ (-1 : Int32)) &&& (u0 - (1 : Int32))).toUInt32 >>> ((16 : Int32) &&& 31).toUInt32).toInt32)), .val (.int (17 : Int32))] [(.int ((((u0 ^^^ (-1 : Int32)) &&& (u0 - (1 : Int32))).toUInt32 >>> ((16 : Int32) &&& 31).toUInt32).toInt32))]))
      refine own_st (fun _ k => XS.sipush X0.here hx rfl (hb hby d6_35) k) ?_
      show own_Go _ _ _ _ (s₁.setTop (mkF m 38 #[.val (.int ((((u0 ^^^ (-1 : Int32)) &&& (u0 - (1 : Int32))).toUInt32 >>> ((16 : Int32) &&& 31).toUInt32).toInt32)), .val (.int (17 : Int32))] [(.int (256 : Int32)), (.int ((((u0 ^^^ (-1 : Int32)) &&& (u0 - (1 : Int32))).toUInt32 >>> ((16 : Int32) &&& 31).toUInt32).toInt32))]))
      by_cases hc3 : (256 : Int32) < ((((u0 ^^^ (-1 : Int32)) &&& (u0 - (1 : Int32))).toUInt32 >>> ((16 : Int32) &&& 31).toUInt32).toInt32)
      · skip
        refine own_st (fun _ k => XS.icmpNo X0.here hx rfl (hb hby d6_38) rfl (tlt hc3).2.2.2 k) ?_
        show own_Go _ _ _ _ (s₁.setTop (mkF m 41 #[.val (.int ((((u0 ^^^ (-1 : Int32)) &&& (u0 - (1 : Int32))).toUInt32 >>> ((16 : Int32) &&& 31).toUInt32).toInt32)), .val (.int (17 : Int32))] []))
        refine own_st (fun _ k => XS.iinc X0.here hx rfl (hb hby d6_41) rfl (l' := #[.val (.int ((((u0 ^^^ (-1 : Int32)) &&& (u0 - (1 : Int32))).toUInt32 >>> ((16 : Int32) &&& 31).toUInt32).toInt32)), .val (.int (25 : Int32))]) rfl k) ?_
        show own_Go _ _ _ _ (s₁.setTop (mkF m 44 #[.val (.int ((((u0 ^^^ (-1 : Int32)) &&& (u0 - (1 : Int32))).toUInt32 >>> ((16 : Int32) &&& 31).toUInt32).toInt32)), .val (.int (25 : Int32))] []))
        refine own_st (fun _ k => XS.iloadN X0.here hx rfl (hb hby d6_44) rfl k) ?_
        show own_Go _ _ _ _ (s₁.setTop (mkF m 45 #[.val (.int ((((u0 ^^^ (-1 : Int32)) &&& (u0 - (1 : Int32))).toUInt32 >>> ((16 : Int32) &&& 31).toUInt32).toInt32)), .val (.int (25 : Int32))] [(.int ((((u0 ^^^ (-1 : Int32)) &&& (u0 - (1 : Int32))).toUInt32 >>> ((16 : Int32) &&& 31).toUInt32).toInt32))]))
        refine own_st (fun _ k => XS.bipush X0.here hx rfl (hb hby d6_45) k) ?_
        show own_Go _ _ _ _ (s₁.setTop (mkF m 47 #[.val (.int ((((u0 ^^^ (-1 : Int32)) &&& (u0 - (1 : Int32))).toUInt32 >>> ((16 : Int32) &&& 31).toUInt32).toInt32)), .val (.int (25 : Int32))] [(.int (8 : Int32)), (.int ((((u0 ^^^ (-1 : Int32)) &&& (u0 - (1 : Int32))).toUInt32 >>> ((16 : Int32) &&& 31).toUInt32).toInt32))]))
        refine own_st (fun _ k => XS.iushr X0.here hx rfl (hb hby d6_47) rfl k) ?_
        show own_Go _ _ _ _ (s₁.setTop (mkF m 48 #[.val (.int ((((u0 ^^^ (-1 : Int32)) &&& (u0 - (1 : Int32))).toUInt32 >>> ((16 : Int32) &&& 31).toUInt32).toInt32)), .val (.int (25 : Int32))] [(.int ((((((u0 ^^^ (-1 : Int32)) &&& (u0 - (1 : Int32))).toUInt32 >>> ((16 : Int32) &&& 31).toUInt32).toInt32).toUInt32 >>> ((8 : Int32) &&& 31).toUInt32).toInt32))]))
        refine own_st (fun _ k => XS.istoreN X0.here hx rfl (hb hby d6_48) rfl (l' := #[.val (.int ((((((u0 ^^^ (-1 : Int32)) &&& (u0 - (1 : Int32))).toUInt32 >>> ((16 : Int32) &&& 31).toUInt32).toInt32).toUInt32 >>> ((8 : Int32) &&& 31).toUInt32).toInt32)), .val (.int (25 : Int32))]) rfl k) ?_
        show own_Go _ _ _ _ (s₁.setTop (mkF m 49 #[.val (.int ((((((u0 ^^^ (-1 : Int32)) &&& (u0 - (1 : Int32))).toUInt32 >>> ((16 : Int32) &&& 31).toUInt32).toInt32).toUInt32 >>> ((8 : Int32) &&& 31).toUInt32).toInt32)), .val (.int (25 : Int32))] []))
        refine own_st (fun _ k => XS.iloadN X0.here hx rfl (hb hby d6_49) rfl k) ?_
        show own_Go _ _ _ _ (s₁.setTop (mkF m 50 #[.val (.int ((((((u0 ^^^ (-1 : Int32)) &&& (u0 - (1 : Int32))).toUInt32 >>> ((16 : Int32) &&& 31).toUInt32).toInt32).toUInt32 >>> ((8 : Int32) &&& 31).toUInt32).toInt32)), .val (.int (25 : Int32))] [(.int ((((((u0 ^^^ (-1 : Int32)) &&& (u0 - (1 : Int32))).toUInt32 >>> ((16 : Int32) &&& 31).toUInt32).toInt32).toUInt32 >>> ((8 : Int32) &&& 31).toUInt32).toInt32))]))
        refine own_st (fun _ k => XS.bipush X0.here hx rfl (hb hby d6_50) k) ?_
        show own_Go _ _ _ _ (s₁.setTop (mkF m 52 #[.val (.int ((((((u0 ^^^ (-1 : Int32)) &&& (u0 - (1 : Int32))).toUInt32 >>> ((16 : Int32) &&& 31).toUInt32).toInt32).toUInt32 >>> ((8 : Int32) &&& 31).toUInt32).toInt32)), .val (.int (25 : Int32))] [(.int (16 : Int32)), (.int ((((((u0 ^^^ (-1 : Int32)) &&& (u0 - (1 : Int32))).toUInt32 >>> ((16 : Int32) &&& 31).toUInt32).toInt32).toUInt32 >>> ((8 : Int32) &&& 31).toUInt32).toInt32))]))
        by_cases hc4 : (16 : Int32) < ((((((u0 ^^^ (-1 : Int32)) &&& (u0 - (1 : Int32))).toUInt32 >>> ((16 : Int32) &&& 31).toUInt32).toInt32).toUInt32 >>> ((8 : Int32) &&& 31).toUInt32).toInt32)
        · skip
          refine own_st (fun _ k => XS.icmpNo X0.here hx rfl (hb hby d6_52) rfl (tlt hc4).2.2.2 k) ?_
          show own_Go _ _ _ _ (s₁.setTop (mkF m 55 #[.val (.int ((((((u0 ^^^ (-1 : Int32)) &&& (u0 - (1 : Int32))).toUInt32 >>> ((16 : Int32) &&& 31).toUInt32).toInt32).toUInt32 >>> ((8 : Int32) &&& 31).toUInt32).toInt32)), .val (.int (25 : Int32))] []))
          refine own_st (fun _ k => XS.iinc X0.here hx rfl (hb hby d6_55) rfl (l' := #[.val (.int ((((((u0 ^^^ (-1 : Int32)) &&& (u0 - (1 : Int32))).toUInt32 >>> ((16 : Int32) &&& 31).toUInt32).toInt32).toUInt32 >>> ((8 : Int32) &&& 31).toUInt32).toInt32)), .val (.int (29 : Int32))]) rfl k) ?_
          show own_Go _ _ _ _ (s₁.setTop (mkF m 58 #[.val (.int ((((((u0 ^^^ (-1 : Int32)) &&& (u0 - (1 : Int32))).toUInt32 >>> ((16 : Int32) &&& 31).toUInt32).toInt32).toUInt32 >>> ((8 : Int32) &&& 31).toUInt32).toInt32)), .val (.int (29 : Int32))] []))
          refine own_st (fun _ k => XS.iloadN X0.here hx rfl (hb hby d6_58) rfl k) ?_
          show own_Go _ _ _ _ (s₁.setTop (mkF m 59 #[.val (.int ((((((u0 ^^^ (-1 : Int32)) &&& (u0 - (1 : Int32))).toUInt32 >>> ((16 : Int32) &&& 31).toUInt32).toInt32).toUInt32 >>> ((8 : Int32) &&& 31).toUInt32).toInt32)), .val (.int (29 : Int32))] [(.int ((((((u0 ^^^ (-1 : Int32)) &&& (u0 - (1 : Int32))).toUInt32 >>> ((16 : Int32) &&& 31).toUInt32).toInt32).toUInt32 >>> ((8 : Int32) &&& 31).toUInt32).toInt32))]))
          refine own_st (fun _ k => XS.iconst X0.here hx rfl (hb hby d6_59) k) ?_
          show own_Go _ _ _ _ (s₁.setTop (mkF m 60 #[.val (.int ((((((u0 ^^^ (-1 : Int32)) &&& (u0 - (1 : Int32))).toUInt32 >>> ((16 : Int32) &&& 31).toUInt32).toInt32).toUInt32 >>> ((8 : Int32) &&& 31).toUInt32).toInt32)), .val (.int (29 : Int32))] [(.int (4 : Int32)), (.int ((((((u0 ^^^ (-1 : Int32)) &&& (u0 - (1 : Int32))).toUInt32 >>> ((16 : Int32) &&& 31).toUInt32).toInt32).toUInt32 >>> ((8 : Int32) &&& 31).toUInt32).toInt32))]))
          refine own_st (fun _ k => XS.iushr X0.here hx rfl (hb hby d6_60) rfl k) ?_
          show own_Go _ _ _ _ (s₁.setTop (mkF m 61 #[.val (.int ((((((u0 ^^^ (-1 : Int32)) &&& (u0 - (1 : Int32))).toUInt32 >>> ((16 : Int32) &&& 31).toUInt32).toInt32).toUInt32 >>> ((8 : Int32) &&& 31).toUInt32).toInt32)), .val (.int (29 : Int32))] [(.int ((((((((u0 ^^^ (-1 : Int32)) &&& (u0 - (1 : Int32))).toUInt32 >>> ((16 : Int32) &&& 31).toUInt32).toInt32).toUInt32 >>> ((8 : Int32) &&& 31).toUInt32).toInt32).toUInt32 >>> ((4 : Int32) &&& 31).toUInt32).toInt32))]))
          refine own_st (fun _ k => XS.istoreN X0.here hx rfl (hb hby d6_61) rfl (l' := #[.val (.int ((((((((u0 ^^^ (-1 : Int32)) &&& (u0 - (1 : Int32))).toUInt32 >>> ((16 : Int32) &&& 31).toUInt32).toInt32).toUInt32 >>> ((8 : Int32) &&& 31).toUInt32).toInt32).toUInt32 >>> ((4 : Int32) &&& 31).toUInt32).toInt32)), .val (.int (29 : Int32))]) rfl k) ?_
          show own_Go _ _ _ _ (s₁.setTop (mkF m 62 #[.val (.int ((((((((u0 ^^^ (-1 : Int32)) &&& (u0 - (1 : Int32))).toUInt32 >>> ((16 : Int32) &&& 31).toUInt32).toInt32).toUInt32 >>> ((8 : Int32) &&& 31).toUInt32).toInt32).toUInt32 >>> ((4 : Int32) &&& 31).toUInt32).toInt32)), .val (.int (29 : Int32))] []))
          refine own_st (fun _ k => XS.iloadN X0.here hx rfl (hb hby d6_62) rfl k) ?_
          show own_Go _ _ _ _ (s₁.setTop (mkF m 63 #[.val (.int ((((((((u0 ^^^ (-1 : Int32)) &&& (u0 - (1 : Int32))).toUInt32 >>> ((16 : Int32) &&& 31).toUInt32).toInt32).toUInt32 >>> ((8 : Int32) &&& 31).toUInt32).toInt32).toUInt32 >>> ((4 : Int32) &&& 31).toUInt32).toInt32)), .val (.int (29 : Int32))] [(.int ((((((((u0 ^^^ (-1 : Int32)) &&& (u0 - (1 : Int32))).toUInt32 >>> ((16 : Int32) &&& 31).toUInt32).toInt32).toUInt32 >>> ((8 : Int32) &&& 31).toUInt32).toInt32).toUInt32 >>> ((4 : Int32) &&& 31).toUInt32).toInt32))]))
          refine own_st (fun _ k => XS.iconst X0.here hx rfl (hb hby d6_63) k) ?_
          show own_Go _ _ _ _ (s₁.setTop (mkF m 64 #[.val (.int ((((((((u0 ^^^ (-1 : Int32)) &&& (u0 - (1 : Int32))).toUInt32 >>> ((16 : Int32) &&& 31).toUInt32).toInt32).toUInt32 >>> ((8 : Int32) &&& 31).toUInt32).toInt32).toUInt32 >>> ((4 : Int32) &&& 31).toUInt32).toInt32)), .val (.int (29 : Int32))] [(.int (4 : Int32)), (.int ((((((((u0 ^^^ (-1 : Int32)) &&& (u0 - (1 : Int32))).toUInt32 >>> ((16 : Int32) &&& 31).toUInt32).toInt32).toUInt32 >>> ((8 : Int32) &&& 31).toUInt32).toInt32).toUInt32 >>> ((4 : Int32) &&& 31).toUInt32).toInt32))]))
          by_cases hc5 : (4 : Int32) < ((((((((u0 ^^^ (-1 : Int32)) &&& (u0 - (1 : Int32))).toUInt32 >>> ((16 : Int32) &&& 31).toUInt32).toInt32).toUInt32 >>> ((8 : Int32) &&& 31).toUInt32).toInt32).toUInt32 >>> ((4 : Int32) &&& 31).toUInt32).toInt32)
          · skip
            refine own_st (fun _ k => XS.icmpNo X0.here hx rfl (hb hby d6_64) rfl (tlt hc5).2.2.2 k) ?_
            show own_Go _ _ _ _ (s₁.setTop (mkF m 67 #[.val (.int ((((((((u0 ^^^ (-1 : Int32)) &&& (u0 - (1 : Int32))).toUInt32 >>> ((16 : Int32) &&& 31).toUInt32).toInt32).toUInt32 >>> ((8 : Int32) &&& 31).toUInt32).toInt32).toUInt32 >>> ((4 : Int32) &&& 31).toUInt32).toInt32)), .val (.int (29 : Int32))] []))
            refine own_st (fun _ k => XS.iinc X0.here hx rfl (hb hby d6_67) rfl (l' := #[.val (.int ((((((((u0 ^^^ (-1 : Int32)) &&& (u0 - (1 : Int32))).toUInt32 >>> ((16 : Int32) &&& 31).toUInt32).toInt32).toUInt32 >>> ((8 : Int32) &&& 31).toUInt32).toInt32).toUInt32 >>> ((4 : Int32) &&& 31).toUInt32).toInt32)), .val (.int (31 : Int32))]) rfl k) ?_
            show own_Go _ _ _ _ (s₁.setTop (mkF m 70 #[.val (.int ((((((((u0 ^^^ (-1 : Int32)) &&& (u0 - (1 : Int32))).toUInt32 >>> ((16 : Int32) &&& 31).toUInt32).toInt32).toUInt32 >>> ((8 : Int32) &&& 31).toUInt32).toInt32).toUInt32 >>> ((4 : Int32) &&& 31).toUInt32).toInt32)), .val (.int (31 : Int32))] []))
            refine own_st (fun _ k => XS.iloadN X0.here hx rfl (hb hby d6_70) rfl k) ?_
            show own_Go _ _ _ _ (s₁.setTop (mkF m 71 #[.val (.int ((((((((u0 ^^^ (-1 : Int32)) &&& (u0 - (1 : Int32))).toUInt32 >>> ((16 : Int32) &&& 31).toUInt32).toInt32).toUInt32 >>> ((8 : Int32) &&& 31).toUInt32).toInt32).toUInt32 >>> ((4 : Int32) &&& 31).toUInt32).toInt32)), .val (.int (31 : Int32))] [(.int ((((((((u0 ^^^ (-1 : Int32)) &&& (u0 - (1 : Int32))).toUInt32 >>> ((16 : Int32) &&& 31).toUInt32).toInt32).toUInt32 >>> ((8 : Int32) &&& 31).toUInt32).toInt32).toUInt32 >>> ((4 : Int32) &&& 31).toUInt32).toInt32))]))
            refine own_st (fun _ k => XS.iconst X0.here hx rfl (hb hby d6_71) k) ?_
            show own_Go _ _ _ _ (s₁.setTop (mkF m 72 #[.val (.int ((((((((u0 ^^^ (-1 : Int32)) &&& (u0 - (1 : Int32))).toUInt32 >>> ((16 : Int32) &&& 31).toUInt32).toInt32).toUInt32 >>> ((8 : Int32) &&& 31).toUInt32).toInt32).toUInt32 >>> ((4 : Int32) &&& 31).toUInt32).toInt32)), .val (.int (31 : Int32))] [(.int (2 : Int32)), (.int ((((((((u0 ^^^ (-1 : Int32)) &&& (u0 - (1 : Int32))).toUInt32 >>> ((16 : Int32) &&& 31).toUInt32).toInt32).toUInt32 >>> ((8 : Int32) &&& 31).toUInt32).toInt32).toUInt32 >>> ((4 : Int32) &&& 31).toUInt32).toInt32))]))
            refine own_st (fun _ k => XS.iushr X0.here hx rfl (hb hby d6_72) rfl k) ?_
            show own_Go _ _ _ _ (s₁.setTop (mkF m 73 #[.val (.int ((((((((u0 ^^^ (-1 : Int32)) &&& (u0 - (1 : Int32))).toUInt32 >>> ((16 : Int32) &&& 31).toUInt32).toInt32).toUInt32 >>> ((8 : Int32) &&& 31).toUInt32).toInt32).toUInt32 >>> ((4 : Int32) &&& 31).toUInt32).toInt32)), .val (.int (31 : Int32))] [(.int ((((((((((u0 ^^^ (-1 : Int32)) &&& (u0 - (1 : Int32))).toUInt32 >>> ((16 : Int32) &&& 31).toUInt32).toInt32).toUInt32 >>> ((8 : Int32) &&& 31).toUInt32).toInt32).toUInt32 >>> ((4 : Int32) &&& 31).toUInt32).toInt32).toUInt32 >>> ((2 : Int32) &&& 31).toUInt32).toInt32))]))
            refine own_st (fun _ k => XS.istoreN X0.here hx rfl (hb hby d6_73) rfl (l' := #[.val (.int ((((((((((u0 ^^^ (-1 : Int32)) &&& (u0 - (1 : Int32))).toUInt32 >>> ((16 : Int32) &&& 31).toUInt32).toInt32).toUInt32 >>> ((8 : Int32) &&& 31).toUInt32).toInt32).toUInt32 >>> ((4 : Int32) &&& 31).toUInt32).toInt32).toUInt32 >>> ((2 : Int32) &&& 31).toUInt32).toInt32)), .val (.int (31 : Int32))]) rfl k) ?_
            show own_Go _ _ _ _ (s₁.setTop (mkF m 74 #[.val (.int ((((((((((u0 ^^^ (-1 : Int32)) &&& (u0 - (1 : Int32))).toUInt32 >>> ((16 : Int32) &&& 31).toUInt32).toInt32).toUInt32 >>> ((8 : Int32) &&& 31).toUInt32).toInt32).toUInt32 >>> ((4 : Int32) &&& 31).toUInt32).toInt32).toUInt32 >>> ((2 : Int32) &&& 31).toUInt32).toInt32)), .val (.int (31 : Int32))] []))
            refine own_st (fun _ k => XS.iloadN X0.here hx rfl (hb hby d6_74) rfl k) ?_
            show own_Go _ _ _ _ (s₁.setTop (mkF m 75 #[.val (.int ((((((((((u0 ^^^ (-1 : Int32)) &&& (u0 - (1 : Int32))).toUInt32 >>> ((16 : Int32) &&& 31).toUInt32).toInt32).toUInt32 >>> ((8 : Int32) &&& 31).toUInt32).toInt32).toUInt32 >>> ((4 : Int32) &&& 31).toUInt32).toInt32).toUInt32 >>> ((2 : Int32) &&& 31).toUInt32).toInt32)), .val (.int (31 : Int32))] [(.int (31 : Int32))]))
            refine own_st (fun _ k => XS.iloadN X0.here hx rfl (hb hby d6_75) rfl k) ?_
            show own_Go _ _ _ _ (s₁.setTop (mkF m 76 #[.val (.int ((((((((((u0 ^^^ (-1 : Int32)) &&& (u0 - (1 : Int32))).toUInt32 >>> ((16 : Int32) &&& 31).toUInt32).toInt32).toUInt32 >>> ((8 : Int32) &&& 31).toUInt32).toInt32).toUInt32 >>> ((4 : Int32) &&& 31).toUInt32).toInt32).toUInt32 >>> ((2 : Int32) &&& 31).toUInt32).toInt32)), .val (.int (31 : Int32))] [(.int ((((((((((u0 ^^^ (-1 : Int32)) &&& (u0 - (1 : Int32))).toUInt32 >>> ((16 : Int32) &&& 31).toUInt32).toInt32).toUInt32 >>> ((8 : Int32) &&& 31).toUInt32).toInt32).toUInt32 >>> ((4 : Int32) &&& 31).toUInt32).toInt32).toUInt32 >>> ((2 : Int32) &&& 31).toUInt32).toInt32)), (.int (31 : Int32))]))
            refine own_st (fun _ k => XS.iconst X0.here hx rfl (hb hby d6_76) k) ?_
            show own_Go _ _ _ _ (s₁.setTop (mkF m 77 #[.val (.int ((((((((((u0 ^^^ (-1 : Int32)) &&& (u0 - (1 : Int32))).toUInt32 >>> ((16 : Int32) &&& 31).toUInt32).toInt32).toUInt32 >>> ((8 : Int32) &&& 31).toUInt32).toInt32).toUInt32 >>> ((4 : Int32) &&& 31).toUInt32).toInt32).toUInt32 >>> ((2 : Int32) &&& 31).toUInt32).toInt32)), .val (.int (31 : Int32))] [(.int (1 : Int32)), (.int ((((((((((u0 ^^^ (-1 : Int32)) &&& (u0 - (1 : Int32))).toUInt32 >>> ((16 : Int32) &&& 31).toUInt32).toInt32).toUInt32 >>> ((8 : Int32) &&& 31).toUInt32).toInt32).toUInt32 >>> ((4 : Int32) &&& 31).toUInt32).toInt32).toUInt32 >>> ((2 : Int32) &&& 31).toUInt32).toInt32)), (.int (31 : Int32))]))
            refine own_st (fun _ k => XS.iushr X0.here hx rfl (hb hby d6_77) rfl k) ?_
            show own_Go _ _ _ _ (s₁.setTop (mkF m 78 #[.val (.int ((((((((((u0 ^^^ (-1 : Int32)) &&& (u0 - (1 : Int32))).toUInt32 >>> ((16 : Int32) &&& 31).toUInt32).toInt32).toUInt32 >>> ((8 : Int32) &&& 31).toUInt32).toInt32).toUInt32 >>> ((4 : Int32) &&& 31).toUInt32).toInt32).toUInt32 >>> ((2 : Int32) &&& 31).toUInt32).toInt32)), .val (.int (31 : Int32))] [(.int ((((((((((((u0 ^^^ (-1 : Int32)) &&& (u0 - (1 : Int32))).toUInt32 >>> ((16 : Int32) &&& 31).toUInt32).toInt32).toUInt32 >>> ((8 : Int32) &&& 31).toUInt32).toInt32).toUInt32 >>> ((4 : Int32) &&& 31).toUInt32).toInt32).toUInt32 >>> ((2 : Int32) &&& 31).toUInt32).toInt32).toUInt32 >>> ((1 : Int32) &&& 31).toUInt32).toInt32)), (.int (31 : Int32))]))
            refine own_st (fun _ k => XS.iadd X0.here hx rfl (hb hby d6_78) rfl k) ?_
            show own_Go _ _ _ _ (s₁.setTop (mkF m 79 #[.val (.int ((((((((((u0 ^^^ (-1 : Int32)) &&& (u0 - (1 : Int32))).toUInt32 >>> ((16 : Int32) &&& 31).toUInt32).toInt32).toUInt32 >>> ((8 : Int32) &&& 31).toUInt32).toInt32).toUInt32 >>> ((4 : Int32) &&& 31).toUInt32).toInt32).toUInt32 >>> ((2 : Int32) &&& 31).toUInt32).toInt32)), .val (.int (31 : Int32))] [(.int ((31 : Int32) + ((((((((((((u0 ^^^ (-1 : Int32)) &&& (u0 - (1 : Int32))).toUInt32 >>> ((16 : Int32) &&& 31).toUInt32).toInt32).toUInt32 >>> ((8 : Int32) &&& 31).toUInt32).toInt32).toUInt32 >>> ((4 : Int32) &&& 31).toUInt32).toInt32).toUInt32 >>> ((2 : Int32) &&& 31).toUInt32).toInt32).toUInt32 >>> ((1 : Int32) &&& 31).toUInt32).toInt32)))]))
            obtain ⟨fs, hr, hrun, hended, hW, hsame⟩ := X0.leave (v := some (.int ((31 : Int32) + ((((((((((((u0 ^^^ (-1 : Int32)) &&& (u0 - (1 : Int32))).toUInt32 >>> ((16 : Int32) &&& 31).toUInt32).toInt32).toUInt32 >>> ((8 : Int32) &&& 31).toUInt32).toInt32).toUInt32 >>> ((4 : Int32) &&& 31).toUInt32).toInt32).toUInt32 >>> ((2 : Int32) &&& 31).toUInt32).toInt32).toUInt32 >>> ((1 : Int32) &&& 31).toUInt32).toInt32)))) (fun h => by rw [Bd.returns] at h; cases h)
            refine own_out (own_retI X0 hx Bd.returns (hb hby d6_79) hr) ⟨hrun, hended, _, _, rfl, ?_, ⟨_, rfl⟩, hW, hsame.mono (by decide) (by decide)⟩
            show Q6 Z u0 h0 n0 _ s₁.heap _
            have hv : own_ntz u0 = ((31 : Int32) + ((((((((((((u0 ^^^ (-1 : Int32)) &&& (u0 - (1 : Int32))).toUInt32 >>> ((16 : Int32) &&& 31).toUInt32).toInt32).toUInt32 >>> ((8 : Int32) &&& 31).toUInt32).toInt32).toUInt32 >>> ((4 : Int32) &&& 31).toUInt32).toInt32).toUInt32 >>> ((2 : Int32) &&& 31).toUInt32).toInt32).toUInt32 >>> ((1 : Int32) &&& 31).toUInt32).toInt32)) := by
              unfold own_ntz
              rw [if_pos hc1, if_pos hc2, if_pos hc3, if_pos hc4, if_pos hc5]
            exact ⟨by rw [hv], N0, e0⟩
          · skip
            refine own_st (fun _ k => XS.icmpYes X0.here hx rfl (pc0 := 64) (pc' := 74) rfl (hb hby d6_64) rfl (flt hc5).2.2.2 (by decide) (by decide) k) ?_
            show own_Go _ _ _ _ (s₁.setTop (mkF m 74 #[.val (.int ((((((((u0 ^^^ (-1 : Int32)) &&& (u0 - (1 : Int32))).toUInt32 >>> ((16 : Int32) &&& 31).toUInt32).toInt32).toUInt32 >>> ((8 : Int32) &&& 31).toUInt32).toInt32).toUInt32 >>> ((4 : Int32) &&& 31).toUInt32).toInt32)), .val (.int (29 : Int32))] []))
            refine own_st (fun _ k => XS.iloadN X0.here hx rfl (hb hby d6_74) rfl k) ?_
            show own_Go _ _ _ _ (s₁.setTop (mkF m 75 #[.val (.int ((((((((u0 ^^^ (-1 : Int32)) &&& (u0 - (1 : Int32))).toUInt32 >>> ((16 : Int32) &&& 31).toUInt32).toInt32).toUInt32 >>> ((8 : Int32) &&& 31).toUInt32).toInt32).toUInt32 >>> ((4 : Int32) &&& 31).toUInt32).toInt32)), .val (.int (29 : Int32))] [(.int (29 : Int32))]))
            refine own_st (fun _ k => XS.iloadN X0.here hx rfl (hb hby d6_75) rfl k) ?_
            show own_Go _ _ _ _ (s₁.setTop (mkF m 76 #[.val (.int ((((((((u0 ^^^ (-1 : Int32)) &&& (u0 - (1 : Int32))).toUInt32 >>> ((16 : Int32) &&& 31).toUInt32).toInt32).toUInt32 >>> ((8 : Int32) &&& 31).toUInt32).toInt32).toUInt32 >>> ((4 : Int32) &&& 31).toUInt32).toInt32)), .val (.int (29 : Int32))] [(.int ((((((((u0 ^^^ (-1 : Int32)) &&& (u0 - (1 : Int32))).toUInt32 >>> ((16 : Int32) &&& 31).toUInt32).toInt32).toUInt32 >>> ((8 : Int32) &&& 31).toUInt32).toInt32).toUInt32 >>> ((4 : Int32) &&& 31).toUInt32).toInt32)), (.int (29 : Int32))]))
            refine own_st (fun _ k => XS.iconst X0.here hx rfl (hb hby d6_76) k) ?_
            show own_Go _ _ _ _ (s₁.setTop (mkF m 77 #[.val (.int ((((((((u0 ^^^ (-1 : Int32)) &&& (u0 - (1 : Int32))).toUInt32 >>> ((16 : Int32) &&& 31).toUInt32).toInt32).toUInt32 >>> ((8 : Int32) &&& 31).toUInt32).toInt32).toUInt32 >>> ((4 : Int32) &&& 31).toUInt32).toInt32)), .val (.int (29 : Int32))] [(.int (1 : Int32)), (.int ((((((((u0 ^^^ (-1 : Int32)) &&& (u0 - (1 : Int32))).toUInt32 >>> ((16 : Int32) &&& 31).toUInt32).toInt32).toUInt32 >>> ((8 : Int32) &&& 31).toUInt32).toInt32).toUInt32 >>> ((4 : Int32) &&& 31).toUInt32).toInt32)), (.int (29 : Int32))]))
            refine own_st (fun _ k => XS.iushr X0.here hx rfl (hb hby d6_77) rfl k) ?_
            show own_Go _ _ _ _ (s₁.setTop (mkF m 78 #[.val (.int ((((((((u0 ^^^ (-1 : Int32)) &&& (u0 - (1 : Int32))).toUInt32 >>> ((16 : Int32) &&& 31).toUInt32).toInt32).toUInt32 >>> ((8 : Int32) &&& 31).toUInt32).toInt32).toUInt32 >>> ((4 : Int32) &&& 31).toUInt32).toInt32)), .val (.int (29 : Int32))] [(.int ((((((((((u0 ^^^ (-1 : Int32)) &&& (u0 - (1 : Int32))).toUInt32 >>> ((16 : Int32) &&& 31).toUInt32).toInt32).toUInt32 >>> ((8 : Int32) &&& 31).toUInt32).toInt32).toUInt32 >>> ((4 : Int32) &&& 31).toUInt32).toInt32).toUInt32 >>> ((1 : Int32) &&& 31).toUInt32).toInt32)), (.int (29 : Int32))]))
            refine own_st (fun _ k => XS.iadd X0.here hx rfl (hb hby d6_78) rfl k) ?_
            show own_Go _ _ _ _ (s₁.setTop (mkF m 79 #[.val (.int ((((((((u0 ^^^ (-1 : Int32)) &&& (u0 - (1 : Int32))).toUInt32 >>> ((16 : Int32) &&& 31).toUInt32).toInt32).toUInt32 >>> ((8 : Int32) &&& 31).toUInt32).toInt32).toUInt32 >>> ((4 : Int32) &&& 31).toUInt32).toInt32)), .val (.int (29 : Int32))] [(.int ((29 : Int32) + ((((((((((u0 ^^^ (-1 : Int32)) &&& (u0 - (1 : Int32))).toUInt32 >>> ((16 : Int32) &&& 31).toUInt32).toInt32).toUInt32 >>> ((8 : Int32) &&& 31).toUInt32).toInt32).toUInt32 >>> ((4 : Int32) &&& 31).toUInt32).toInt32).toUInt32 >>> ((1 : Int32) &&& 31).toUInt32).toInt32)))]))
            obtain ⟨fs, hr, hrun, hended, hW, hsame⟩ := X0.leave (v := some (.int ((29 : Int32) + ((((((((((u0 ^^^ (-1 : Int32)) &&& (u0 - (1 : Int32))).toUInt32 >>> ((16 : Int32) &&& 31).toUInt32).toInt32).toUInt32 >>> ((8 : Int32) &&& 31).toUInt32).toInt32).toUInt32 >>> ((4 : Int32) &&& 31).toUInt32).toInt32).toUInt32 >>> ((1 : Int32) &&& 31).toUInt32).toInt32)))) (fun h => by rw [Bd.returns] at h; cases h)
            refine own_out (own_retI X0 hx Bd.returns (hb hby d6_79) hr) ⟨hrun, hended, _, _, rfl, ?_, ⟨_, rfl⟩, hW, hsame.mono (by decide) (by decide)⟩
            show Q6 Z u0 h0 n0 _ s₁.heap _
            have hv : own_ntz u0 = ((29 : Int32) + ((((((((((u0 ^^^ (-1 : Int32)) &&& (u0 - (1 : Int32))).toUInt32 >>> ((16 : Int32) &&& 31).toUInt32).toInt32).toUInt32 >>> ((8 : Int32) &&& 31).toUInt32).toInt32).toUInt32 >>> ((4 : Int32) &&& 31).toUInt32).toInt32).toUInt32 >>> ((1 : Int32) &&& 31).toUInt32).toInt32)) := by
              unfold own_ntz
              rw [if_pos hc1, if_pos hc2, if_pos hc3, if_pos hc4, if_neg hc5]
            exact ⟨by rw [hv], N0, e0⟩
        · skip
          refine own_st (fun _ k => XS.icmpYes X0.here hx rfl (pc0 := 52) (pc' := 62) rfl (hb hby d6_52) rfl (flt hc4).2.2.2 (by decide) (by decide) k) ?_
          show own_Go _ _ _ _ (s₁.setTop (mkF m 62 #[.val (.int ((((((u0 ^^^ (-1 : Int32)) &&& (u0 - (1 : Int32))).toUInt32 >>> ((16 : Int32) &&& 31).toUInt32).toInt32).toUInt32 >>> ((8 : Int32) &&& 31).toUInt32).toInt32)), .val (.int (25 : Int32))] []))
          refine own_st (fun _ k => XS.iloadN X0.here hx rfl (hb hby d6_62) rfl k) ?_
          show own_Go _ _ _ _ (s₁.setTop (mkF m 63 #[.val (.int ((((((u0 ^^^ (-1 : Int32)) &&& (u0 - (1 : Int32))).toUInt32 >>> ((16 : Int32) &&& 31).toUInt32).toInt32).toUInt32 >>> ((8 : Int32) &&& 31).toUInt32).toInt32)), .val (.int (25 : Int32))] [(.int ((((((u0 ^^^ (-1 : Int32)) &&& (u0 - (1 : Int32))).toUInt32 >>> ((16 : Int32) &&& 31).toUInt32).toInt32).toUInt32 >>> ((8 : Int32) &&& 31).toUInt32).toInt32))]))
          refine own_st (fun _ k => XS.iconst X0.here hx rfl (hb hby d6_63) k) ?_
          show own_Go _ _ _ _ (s₁.setTop (mkF m 64 #[.val (.int ((((((u0 ^^^ (-1 : Int32)) &&& (u0 - (1 : Int32))).toUInt32 >>> ((16 : Int32) &&& 31).toUInt32).toInt32).toUInt32 >>> ((8 : Int32) &&& 31).toUInt32).toInt32)), .val (.int (25 : Int32))] [(.int (4 : Int32)), (.int ((((((u0 ^^^ (-1 : Int32)) &&& (u0 - (1 : Int32))).toUInt32 >>> ((16 : Int32) &&& 31).toUInt32).toInt32).toUInt32 >>> ((8 : Int32) &&& 31).toUInt32).toInt32))]))
          by_cases hc6 : (4 : Int32) < ((((((u0 ^^^ (-1 : Int32)) &&& (u0 - (1 : Int32))).toUInt32 >>> ((16 : Int32) &&& 31).toUInt32).toInt32).toUInt32 >>> ((8 : Int32) &&& 31).toUInt32).toInt32)
          · skip
            refine own_st (fun _ k => XS.icmpNo X0.here hx rfl (hb hby d6_64) rfl (tlt hc6).2.2.2 k) ?_
            show own_Go _ _ _ _ (s₁.setTop (mkF m 67 #[.val (.int ((((((u0 ^^^ (-1 : Int32)) &&& (u0 - (1 : Int32))).toUInt32 >>> ((16 : Int32) &&& 31).toUInt32).toInt32).toUInt32 >>> ((8 : Int32) &&& 31).toUInt32).toInt32)), .val (.int (25 : Int32))] []))
            refine own_st (fun _ k => XS.iinc X0.here hx rfl (hb hby d6_67) rfl (l' := #[.val (.int ((((((u0 ^^^ (-1 : Int32)) &&& (u0 - (1 : Int32))).toUInt32 >>> ((16 : Int32) &&& 31).toUInt32).toInt32).toUInt32 >>> ((8 : Int32) &&& 31).toUInt32).toInt32)), .val (.int (27 : Int32))]) rfl k) ?_
            show own_Go _ _ _ _ (s₁.setTop (mkF m 70 #[.val (.int ((((((u0 ^^^ (-1 : Int32)) &&& (u0 - (1 : Int32))).toUInt32 >>> ((16 : Int32) &&& 31).toUInt32).toInt32).toUInt32 >>> ((8 : Int32) &&& 31).toUInt32).toInt32)), .val (.int (27 : Int32))] []))
            refine own_st (fun _ k => XS.iloadN X0.here hx rfl (hb hby d6_70) rfl k) ?_
            show own_Go _ _ _ _ (s₁.setTop (mkF m 71 #[.val (.int ((((((u0 ^^^ (-1 : Int32)) &&& (u0 - (1 : Int32))).toUInt32 >>> ((16 : Int32) &&& 31).toUInt32).toInt32).toUInt32 >>> ((8 : Int32) &&& 31).toUInt32).toInt32)), .val (.int (27 : Int32))] [(.int ((((((u0 ^^^ (-1 : Int32)) &&& (u0 - (1 : Int32))).toUInt32 >>> ((16 : Int32) &&& 31).toUInt32).toInt32).toUInt32 >>> ((8 : Int32) &&& 31).toUInt32).toInt32))]))
            refine own_st (fun _ k => XS.iconst X0.here hx rfl (hb hby d6_71) k) ?_
            show own_Go _ _ _ _ (s₁.setTop (mkF m 72 #[.val (.int ((((((u0 ^^^ (-1 : Int32)) &&& (u0 - (1 : Int32))).toUInt32 >>> ((16 : Int32) &&& 31).toUInt32).toInt32).toUInt32 >>> ((8 : Int32) &&& 31).toUInt32).toInt32)), .val (.int (27 : Int32))] [(.int (2 : Int32)), (.int ((((((u0 ^^^ (-1 : Int32)) &&& (u0 - (1 : Int32))).toUInt32 >>> ((16 : Int32) &&& 31).toUInt32).toInt32).toUInt32 >>> ((8 : Int32) &&& 31).toUInt32).toInt32))]))
            refine own_st (fun _ k => XS.iushr X0.here hx rfl (hb hby d6_72) rfl k) ?_
            show own_Go _ _ _ _ (s₁.setTop (mkF m 73 #[.val (.int ((((((u0 ^^^ (-1 : Int32)) &&& (u0 - (1 : Int32))).toUInt32 >>> ((16 : Int32) &&& 31).toUInt32).toInt32).toUInt32 >>> ((8 : Int32) &&& 31).toUInt32).toInt32)), .val (.int (27 : Int32))] [(.int ((((((((u0 ^^^ (-1 : Int32)) &&& (u0 - (1 : Int32))).toUInt32 >>> ((16 : Int32) &&& 31).toUInt32).toInt32).toUInt32 >>> ((8 : Int32) &&& 31).toUInt32).toInt32).toUInt32 >>> ((2 : Int32) &&& 31).toUInt32).toInt32))]))
            refine own_st (fun _ k => XS.istoreN X0.here hx rfl (hb hby d6_73) rfl (l' := #[.val (.int ((((((((u0 ^^^ (-1 : Int32)) &&& (u0 - (1 : Int32))).toUInt32 >>> ((16 : Int32) &&& 31).toUInt32).toInt32).toUInt32 >>> ((8 : Int32) &&& 31).toUInt32).toInt32).toUInt32 >>> ((2 : Int32) &&& 31).toUInt32).toInt32)), .val (.int (27 : Int32))]) rfl k) ?_
            show own_Go _ _ _ _ (s₁.setTop (mkF m 74 #[.val (.int ((((((((u0 ^^^ (-1 : Int32)) &&& (u0 - (1 : Int32))).toUInt32 >>> ((16 : Int32) &&& 31).toUInt32).toInt32).toUInt32 >>> ((8 : Int32) &&& 31).toUInt32).toInt32).toUInt32 >>> ((2 : Int32) &&& 31).toUInt32).toInt32)), .val (.int (27 : Int32))] []))
            refine own_st (fun _ k => XS.iloadN X0.here hx rfl (hb hby d6_74) rfl k) ?_
            show own_Go _ _ _ _ (s₁.setTop (mkF m 75 #[.val (.int ((((((((u0 ^^^ (-1 : Int32)) &&& (u0 - (1 : Int32))).toUInt32 >>> ((16 : Int32) &&& 31).toUInt32).toInt32).toUInt32 >>> ((8 : Int32) &&& 31).toUInt32).toInt32).toUInt32 >>> ((2 : Int32) &&& 31).toUInt32).toInt32)), .val (.int (27 : Int32))] [(.int (27 : Int32))]))
            refine own_st (fun _ k => XS.iloadN X0.here hx rfl (hb hby d6_75) rfl k) ?_
            show own_Go _ _ _ _ (s₁.setTop (mkF m 76 #[.val (.int ((((((((u0 ^^^ (-1 : Int32)) &&& (u0 - (1 : Int32))).toUInt32 >>> ((16 : Int32) &&& 31).toUInt32).toInt32).toUInt32 >>> ((8 : Int32) &&& 31).toUInt32).toInt32).toUInt32 >>> ((2 : Int32) &&& 31).toUInt32).toInt32)), .val (.int (27 : Int32))] [(.int ((((((((u0 ^^^ (-1 : Int32)) &&& (u0 - (1 : Int32))).toUInt32 >>> ((16 : Int32) &&& 31).toUInt32).toInt32).toUInt32 >>> ((8 : Int32) &&& 31).toUInt32).toInt32).toUInt32 >>> ((2 : Int32) &&& 31).toUInt32).toInt32)), (.int (27 : Int32))]))
            refine own_st (fun _ k => XS.iconst X0.here hx rfl (hb hby d6_76) k) ?_
            show own_Go _ _ _ _ (s₁.setTop (mkF m 77 #[.val (.int ((((((((u0 ^^^ (-1 : Int32)) &&& (u0 - (1 : Int32))).toUInt32 >>> ((16 : Int32) &&& 31).toUInt32).toInt32).toUInt32 >>> ((8 : Int32) &&& 31).toUInt32).toInt32).toUInt32 >>> ((2 : Int32) &&& 31).toUInt32).toInt32)), .val (.int (27 : Int32))] [(.int (1 : Int32)), (.int ((((((((u0 ^^^ (-1 : Int32)) &&& (u0 - (1 : Int32))).toUInt32 >>> ((16 : Int32) &&& 31).toUInt32).toInt32).toUInt32 >>> ((8 : Int32) &&& 31).toUInt32).toInt32).toUInt32 >>> ((2 : Int32) &&& 31).toUInt32).toInt32)), (.int (27 : Int32))]))
            refine own_st (fun _ k => XS.iushr X0.here hx rfl (hb hby d6_77) rfl k) ?_
            show own_Go _ _ _ _ (s₁.setTop (mkF m 78 #[.val (.int ((((((((u0 ^^^ (-1 : Int32)) &&& (u0 - (1 : Int32))).toUInt32 >>> ((16 : Int32) &&& 31).toUInt32).toInt32).toUInt32 >>> ((8 : Int32) &&& 31).toUInt32).toInt32).toUInt32 >>> ((2 : Int32) &&& 31).toUInt32).toInt32)), .val (.int (27 : Int32))] [(.int ((((((((((u0 ^^^ (-1 : Int32)) &&& (u0 - (1 : Int32))).toUInt32 >>> ((16 : Int32) &&& 31).toUInt32).toInt32).toUInt32 >>> ((8 : Int32) &&& 31).toUInt32).toInt32).toUInt32 >>> ((2 : Int32) &&& 31).toUInt32).toInt32).toUInt32 >>> ((1 : Int32) &&& 31).toUInt32).toInt32)), (.int (27 : Int32))]))
            refine own_st (fun _ k => XS.iadd X0.here hx rfl (hb hby d6_78) rfl k) ?_
            show own_Go _ _ _ _ (s₁.setTop (mkF m 79 #[.val (.int ((((((((u0 ^^^ (-1 : Int32)) &&& (u0 - (1 : Int32))).toUInt32 >>> ((16 : Int32) &&& 31).toUInt32).toInt32).toUInt32 >>> ((8 : Int32) &&& 31).toUInt32).toInt32).toUInt32 >>> ((2 : Int32) &&& 31).toUInt32).toInt32)), .val (.int (27 : Int32))] [(.int ((27 : Int32) + ((((((((((u0 ^^^ (-1 : Int32)) &&& (u0 - (1 : Int32))).toUInt32 >>> ((16 : Int32) &&& 31).toUInt32).toInt32).toUInt32 >>> ((8 : Int32) &&& 31).toUInt32).toInt32).toUInt32 >>> ((2 : Int32) &&& 31).toUInt32).toInt32).toUInt32 >>> ((1 : Int32) &&& 31).toUInt32).toInt32)))]))
            obtain ⟨fs, hr, hrun, hended, hW, hsame⟩ := X0.leave (v := some (.int ((27 : Int32) + ((((((((((u0 ^^^ (-1 : Int32)) &&& (u0 - (1 : Int32))).toUInt32 >>> ((16 : Int32) &&& 31).toUInt32).toInt32).toUInt32 >>> ((8 : Int32) &&& 31).toUInt32).toInt32).toUInt32 >>> ((2 : Int32) &&& 31).toUInt32).toInt32).toUInt32 >>> ((1 : Int32) &&& 31).toUInt32).toInt32)))) (fun h => by rw [Bd.returns] at h; cases h)
            refine own_out (own_retI X0 hx Bd.returns (hb hby d6_79) hr) ⟨hrun, hended, _, _, rfl, ?_, ⟨_, rfl⟩, hW, hsame.mono (by decide) (by decide)⟩
            show Q6 Z u0 h0 n0 _ s₁.heap _
            have hv : own_ntz u0 = ((27 : Int32) + ((((((((((u0 ^^^ (-1 : Int32)) &&& (u0 - (1 : Int32))).toUInt32 >>> ((16 : Int32) &&& 31).toUInt32).toInt32).toUInt32 >>> ((8 : Int32) &&& 31).toUInt32).toInt32).toUInt32 >>> ((2 : Int32) &&& 31).toUInt32).toInt32).toUInt32 >>> ((1 : Int32) &&& 31).toUInt32).toInt32)) := by
              unfold own_ntz
              rw [if_pos hc1, if_pos hc2, if_pos hc3, if_neg hc4, if_pos hc6]
            exact ⟨by rw [hv], N0, e0⟩
          · skip
            refine own_st (fun _ k => XS.icmpYes X0.here hx rfl (pc0 := 64) (pc' := 74) rfl (hb hby d6_64) rfl (flt hc6).2.2.2 (by decide) (by decide) k) ?_
            show own_Go _ _ _ _ (s₁.setTop (mkF m 74 #[.val (.int ((((((u0 ^^^ (-1 : Int32)) &&& (u0 - (1 : Int32))).toUInt32 >>> ((16 : Int32) &&& 31).toUInt32).toInt32).toUInt32 >>> ((8 : Int32) &&& 31).toUInt32).toInt32)), .val (.int (25 : Int32))] []))
            refine own_st (fun _ k => XS.iloadN X0.here hx rfl (hb hby d6_74) rfl k) ?_
            show own_Go _ _ _ _ (s₁.setTop (mkF m 75 #[.val (.int ((((((u0 ^^^ (-1 : Int32)) &&& (u0 - (1 : Int32))).toUInt32 >>> ((16 : Int32) &&& 31).toUInt32).toInt32).toUInt32 >>> ((8 : Int32) &&& 31).toUInt32).toInt32)), .val (.int (25 : Int32))] [(.int (25 : Int32))]))
            refine own_st (fun _ k => XS.iloadN X0.here hx rfl (hb hby d6_75) rfl k) ?_
            show own_Go _ _ _ _ (s₁.setTop (mkF m 76 #[.val (.int ((((((u0 ^^^ (-1 : Int32)) &&& (u0 - (1 : Int32))).toUInt32 >>> ((16 : Int32) &&& 31).toUInt32).toInt32).toUInt32 >>> ((8 : Int32) &&& 31).toUInt32).toInt32)), .val (.int (25 : Int32))] [(.int ((((((u0 ^^^ (-1 : Int32)) &&& (u0 - (1 : Int32))).toUInt32 >>> ((16 : Int32) &&& 31).toUInt32).toInt32).toUInt32 >>> ((8 : Int32) &&& 31).toUInt32).toInt32)), (.int (25 : Int32))]))
            refine own_st (fun _ k => XS.iconst X0.here hx rfl (hb hby d6_76) k) ?_
            show own_Go _ _ _ _ (s₁.setTop (mkF m 77 #[.val (.int ((((((u0 ^^^ (-1 : Int32)) &&& (u0 - (1 : Int32))).toUInt32 >>> ((16 : Int32) &&& 31).toUInt32).toInt32).toUInt32 >>> ((8 : Int32) &&& 31).toUInt32).toInt32)), .val (.int (25 : Int32))] [(.int (1 : Int32)), (.int ((((((u0 ^^^ (-1 : Int32)) &&& (u0 - (1 : Int32))).toUInt32 >>> ((16 : Int32) &&& 31).toUInt32).toInt32).toUInt32 >>> ((8 : Int32) &&& 31).toUInt32).toInt32)), (.int (25 : Int32))]))
            refine own_st (fun _ k => XS.iushr X0.here hx rfl (hb hby d6_77) rfl k) ?_
            show own_Go _ _ _ _ (s₁.setTop (mkF m 78 #[.val (.int ((((((u0 ^^^ (-1 : Int32)) &&& (u0 - (1 : Int32))).toUInt32 >>> ((16 : Int32) &&& 31).toUInt32).toInt32).toUInt32 >>> ((8 : Int32) &&& 31).toUInt32).toInt32)), .val (.int (25 : Int32))] [(.int ((((((((u0 ^^^ (-1 : Int32)) &&& (u0 - (1 : Int32))).toUInt32 >>> ((16 : Int32) &&& 31).toUInt32).toInt32).toUInt32 >>> ((8 : Int32) &&& 31).toUInt32).toInt32).toUInt32 >>> ((1 : Int32) &&& 31).toUInt32).toInt32)), (.int (25 : Int32))]))
            refine own_st (fun _ k => XS.iadd X0.here hx rfl (hb hby d6_78) rfl k) ?_
            show own_Go _ _ _ _ (s₁.setTop (mkF m 79 #[.val (.int ((((((u0 ^^^ (-1 : Int32)) &&& (u0 - (1 : Int32))).toUInt32 >>> ((16 : Int32) &&& 31).toUInt32).toInt32).toUInt32 >>> ((8 : Int32) &&& 31).toUInt32).toInt32)), .val (.int (25 : Int32))] [(.int ((25 : Int32) + ((((((((u0 ^^^ (-1 : Int32)) &&& (u0 - (1 : Int32))).toUInt32 >>> ((16 : Int32) &&& 31).toUInt32).toInt32).toUInt32 >>> ((8 : Int32) &&& 31).toUInt32).toInt32).toUInt32 >>> ((1 : Int32) &&& 31).toUInt32).toInt32)))]))
            obtain ⟨fs, hr, hrun, hended, hW, hsame⟩ := X0.leave (v := some (.int ((25 : Int32) + ((((((((u0 ^^^ (-1 : Int32)) &&& (u0 - (1 : Int32))).toUInt32 >>> ((16 : Int32) &&& 31).toUInt32).toInt32).toUInt32 >>> ((8 : Int32) &&& 31).toUInt32).toInt32).toUInt32 >>> ((1 : Int32) &&& 31).toUInt32).toInt32)))) (fun h => by rw [Bd.returns] at h; cases h)
            refine own_out (own_retI X0 hx Bd.returns (hb hby d6_79) hr) ⟨hrun, hended, _, _, rfl, ?_, ⟨_, rfl⟩, hW, hsame.mono (by decide) (by decide)⟩
            show Q6 Z u0 h0 n0 _ s₁.heap _
            have hv : own_ntz u0 = ((25 : Int32) + ((((((((u0 ^^^ (-1 : Int32)) &&& (u0 - (1 : Int32))).toUInt32 >>> ((16 : Int32) &&& 31).toUInt32).toInt32).toUInt32 >>> ((8 : Int32) &&& 31).toUInt32).toInt32).toUInt32 >>> ((1 : Int32) &&& 31).toUInt32).toInt32)) := by
              unfold own_ntz
              rw [if_pos hc1, if_pos hc2, if_pos hc3, if_neg hc4, if_neg hc6]
            exact ⟨by rw [hv], N0, e0⟩
      · skip
        refine own_st (fun _ k => XS.icmpYes X0.here hx rfl (pc0 := 38) (pc' := 49) rfl (hb hby d6_38) rfl (flt hc3).2.2.2 (by decide) (by decide) k) ?_
        show own_Go _ _ _ _ (s₁.setTop (mkF m 49 #[.val (.int ((((u0 ^^^ (-1 : Int32)) &&& (u0 - (1 : Int32))).toUInt32 >>> ((16 : Int32) &&& 31).toUInt32).toInt32)), .val (.int (17 : Int32))] []))
        refine own_st (fun _ k => XS.iloadN X0.here hx rfl (hb hby d6_49) rfl k) ?_
        show own_Go _ _ _ _ (s₁.setTop (mkF m 50 #[.val (.int ((((u0 ^^^ (-1 : Int32)) &&& (u0 - (1 : Int32))).toUInt32 >>> ((16 : Int32) &&& 31).toUInt32).toInt32)), .val (.int (17 : Int32))] [(.int ((((u0 ^^^ (-1 : Int32)) &&& (u0 - (1 : Int32))).toUInt32 >>> ((16 : Int32) &&& 31).toUInt32).toInt32))]))
        refine own_st (fun _ k => XS.bipush X0.here hx rfl (hb hby d6_50) k) ?_
        show own_Go _ _ _ _ (s₁.setTop (mkF m 52 #[.val (.int ((((u0 ^^^ (-1 : Int32)) &&& (u0 - (1 : Int32))).toUInt32 >>> ((16 : Int32) &&& 31).toUInt32).toInt32)), .val (.int (17 : Int32))] [(.int (16 : Int32)), (.int ((((u0 ^^^ (-1 : Int32)) &&& (u0 - (1 : Int32))).toUInt32 >>> ((16 : Int32) &&& 31).toUInt32).toInt32))]))
        by_cases hc7 : (16 : Int32) < ((((u0 ^^^ (-1 : Int32)) &&& (u0 - (1 : Int32))).toUInt32 >>> ((16 : Int32) &&& 31).toUInt32).toInt32)
        · skip
          refine own_st (fun _ k => XS.icmpNo X0.here hx rfl (hb hby d6_52) rfl (tlt hc7).2.2.2 k) ?_
          show own_Go _ _ _ _ (s₁.setTop (mkF m 55 #[.val (.int ((((u0 ^^^ (-1 : Int32)) &&& (u0 - (1 : Int32))).toUInt32 >>> ((16 : Int32) &&& 31).toUInt32).toInt32)), .val (.int (17 : Int32))] []))
          refine own_st (fun _ k => XS.iinc X0.here hx rfl (hb hby d6_55) rfl (l' := #[.val (.int ((((u0 ^^^ (-1 : Int32)) &&& (u0 - (1 : Int32))).toUInt32 >>> ((16 : Int32) &&& 31).toUInt32).toInt32)), .val (.int (21 : Int32))]) rfl k) ?_
          show own_Go _ _ _ _ (s₁.setTop (mkF m 58 #[.val (.int ((((u0 ^^^ (-1 : Int32)) &&& (u0 - (1 : Int32))).toUInt32 >>> ((16 : Int32) &&& 31).toUInt32).toInt32)), .val (.int (21 : Int32))] []))
          refine own_st (fun _ k => XS.iloadN X0.here hx rfl (hb hby d6_58) rfl k) ?_
          show own_Go _ _ _ _ (s₁.setTop (mkF m 59 #[.val (.int ((((u0 ^^^ (-1 : Int32)) &&& (u0 - (1 : Int32))).toUInt32 >>> ((16 : Int32) &&& 31).toUInt32).toInt32)), .val (.int (21 : Int32))] [(.int ((((u0 ^^^ (-1 : Int32)) &&& (u0 - (1 : Int32))).toUInt32 >>> ((16 : Int32) &&& 31).toUInt32).toInt32))]))
          refine own_st (fun _ k => XS.iconst X0.here hx rfl (hb hby d6_59) k) ?_
          show own_Go _ _ _ _ (s₁.setTop (mkF m 60 #[.val (.int ((((u0 ^^^ (-1 : Int32)) &&& (u0 - (1 : Int32))).toUInt32 >>> ((16 : Int32) &&& 31).toUInt32).toInt32)), .val (.int (21 : Int32))] [(.int (4 : Int32)), (.int ((((u0 ^^^ (-1 : Int32)) &&& (u0 - (1 : Int32))).toUInt32 >>> ((16 : Int32) &&& 31).toUInt32).toInt32))]))
          refine own_st (fun _ k => XS.iushr X0.here hx rfl (hb hby d6_60) rfl k) ?_
          show own_Go _ _ _ _ (s₁.setTop (mkF m 61 #[.val (.int ((((u0 ^^^ (-1 : Int32)) &&& (u0 - (1 : Int32))).toUInt32 >>> ((16 : Int32) &&& 31).toUInt32).toInt32)), .val (.int (21 : Int32))] [(.int ((((((u0 ^^^ (-1 : Int32)) &&& (u0 - (1 : Int32))).toUInt32 >>> ((16 : Int32) &&& 31).toUInt32).toInt32).toUInt32 >>> ((4 : Int32) &&& 31).toUInt32).toInt32))]))
          refine own_st (fun _ k => XS.istoreN X0.here hx rfl (hb hby d6_61) rfl (l' := #[.val (.int ((((((u0 ^^^ (-1 : Int32)) &&& (u0 - (1 : Int32))).toUInt32 >>> ((16 : Int32) &&& 31).toUInt32).toInt32).toUInt32 >>> ((4 : Int32) &&& 31).toUInt32).toInt32)), .val (.int (21 : Int32))]) rfl k) ?_
          show own_Go _ _ _ _ (s₁.setTop (mkF m 62 #[.val (.int ((((((u0 ^^^ (-1 : Int32)) &&& (u0 - (1 : Int32))).toUInt32 >>> ((16 : Int32) &&& 31).toUInt32).toInt32).toUInt32 >>> ((4 : Int32) &&& 31).toUInt32).toInt32)), .val (.int (21 : Int32))] []))
          refine own_st (fun _ k => XS.iloadN X0.here hx rfl (hb hby d6_62) rfl k) ?_
          show own_Go _ _ _ _ (s₁.setTop (mkF m 63 #[.val (.int ((((((u0 ^^^ (-1 : Int32)) &&& (u0 - (1 : Int32))).toUInt32 >>> ((16 : Int32) &&& 31).toUInt32).toInt32).toUInt32 >>> ((4 : Int32) &&& 31).toUInt32).toInt32)), .val (.int (21 : Int32))] [(.int ((((((u0 ^^^ (-1 : Int32)) &&& (u0 - (1 : Int32))).toUInt32 >>> ((16 : Int32) &&& 31).toUInt32).toInt32).toUInt32 >>> ((4 : Int32) &&& 31).toUInt32).toInt32))]))
          refine own_st (fun _ k => XS.iconst X0.here hx rfl (hb hby d6_63) k) ?_
          show own_Go _ _ _ _ (s₁.setTop (mkF m 64 #[.val (.int ((((((u0 ^^^ (-1 : Int32)) &&& (u0 - (1 : Int32))).toUInt32 >>> ((16 : Int32) &&& 31).toUInt32).toInt32).toUInt32 >>> ((4 : Int32) &&& 31).toUInt32).toInt32)), .val (.int (21 : Int32))] [(.int (4 : Int32)), (.int ((((((u0 ^^^ (-1 : Int32)) &&& (u0 - (1 : Int32))).toUInt32 >>> ((16 : Int32) &&& 31).toUInt32).toInt32).toUInt32 >>> ((4 : Int32) &&& 31).toUInt32).toInt32))]))
          by_cases hc8 : (4 : Int32) < ((((((u0 ^^^ (-1 : Int32)) &&& (u0 - (1 : Int32))).toUInt32 >>> ((16 : Int32) &&& 31).toUInt32).toInt32).toUInt32 >>> ((4 : Int32) &&& 31).toUInt32).toInt32)
          · skip
            refine own_st (fun _ k => XS.icmpNo X0.here hx rfl (hb hby d6_64) rfl (tlt hc8).2.2.2 k) ?_
            show own_Go _ _ _ _ (s₁.setTop (mkF m 67 #[.val (.int ((((((u0 ^^^ (-1 : Int32)) &&& (u0 - (1 : Int32))).toUInt32 >>> ((16 : Int32) &&& 31).toUInt32).toInt32).toUInt32 >>> ((4 : Int32) &&& 31).toUInt32).toInt32)), .val (.int (21 : Int32))] []))
            refine own_st (fun _ k => XS.iinc X0.here hx rfl (hb hby d6_67) rfl (l' := #[.val (.int ((((((u0 ^^^ (-1 : Int32)) &&& (u0 - (1 : Int32))).toUInt32 >>> ((16 : Int32) &&& 31).toUInt32).toInt32).toUInt32 >>> ((4 : Int32) &&& 31).toUInt32).toInt32)), .val (.int (23 : Int32))]) rfl k) ?_
            show own_Go _ _ _ _ (s₁.setTop (mkF m 70 #[.val (.int ((((((u0 ^^^ (-1 : Int32)) &&& (u0 - (1 : Int32))).toUInt32 >>> ((16 : Int32) &&& 31).toUInt32).toInt32).toUInt32 >>> ((4 : Int32) &&& 31).toUInt32).toInt32)), .val (.int (23 : Int32))] []))
            refine own_st (fun _ k => XS.iloadN X0.here hx rfl (hb hby d6_70) rfl k) ?_
            show own_Go _ _ _ _ (s₁.setTop (mkF m 71 #[.val (.int ((((((u0 ^^^ (-1 : Int32)) &&& (u0 - (1 : Int32))).toUInt32 >>> ((16 : Int32) &&& 31).toUInt32).toInt32).toUInt32 >>> ((4 : Int32) &&& 31).toUInt32).toInt32)), .val (.int (23 : Int32))] [(.int ((((((u0 ^^^ (-1 : Int32)) &&& (u0 - (1 : Int32))).toUInt32 >>> ((16 : Int32) &&& 31).toUInt32).toInt32).toUInt32 >>> ((4 : Int32) &&& 31).toUInt32).toInt32))]))
            refine own_st (fun _ k => XS.iconst X0.here hx rfl (hb hby d6_71) k) ?_
            show own_Go _ _ _ _ (s₁.setTop (mkF m 72 #[.val (.int ((((((u0 ^^^ (-1 : Int32)) &&& (u0 - (1 : Int32))).toUInt32 >>> ((16 : Int32) &&& 31).toUInt32).toInt32).toUInt32 >>> ((4 : Int32) &&& 31).toUInt32).toInt32)), .val (.int (23 : Int32))] [(.int (2 : Int32)), (.int ((((((u0 ^^^ (-1 : Int32)) &&& (u0 - (1 : Int32))).toUInt32 >>> ((16 : Int32) &&& 31).toUInt32).toInt32).toUInt32 >>> ((4 : Int32) &&& 31).toUInt32).toInt32))]))
            refine own_st (fun _ k => XS.iushr X0.here hx rfl (hb hby d6_72) rfl k) ?_
            show own_Go _ _ _ _ (s₁.setTop (mkF m 73 #[.val (.int ((((((u0 ^^^ (-1 : Int32)) &&& (u0 - (1 : Int32))).toUInt32 >>> ((16 : Int32) &&& 31).toUInt32).toInt32).toUInt32 >>> ((4 : Int32) &&& 31).toUInt32).toInt32)), .val (.int (23 : Int32))] [(.int ((((((((u0 ^^^ (-1 : Int32)) &&& (u0 - (1 : Int32))).toUInt32 >>> ((16 : Int32) &&& 31).toUInt32).toInt32).toUInt32 >>> ((4 : Int32) &&& 31).toUInt32).toInt32).toUInt32 >>> ((2 : Int32) &&& 31).toUInt32).toInt32))]))
            refine own_st (fun _ k => XS.istoreN X0.here hx rfl (hb hby d6_73) rfl (l' := #[.val (.int ((((((((u0 ^^^ (-1 : Int32)) &&& (u0 - (1 : Int32))).toUInt32 >>> ((16 : Int32) &&& 31).toUInt32).toInt32).toUInt32 >>> ((4 : Int32) &&& 31).toUInt32).toInt32).toUInt32 >>> ((2 : Int32) &&& 31).toUInt32).toInt32)), .val (.int (23 : Int32))]) rfl k) ?_
            show own_Go _ _ _ _ (s₁.setTop (mkF m 74 #[.val (.int ((((((((u0 ^^^ (-1 : Int32)) &&& (u0 - (1 : Int32))).toUInt32 >>> ((16 : Int32) &&& 31).toUInt32).toInt32).toUInt32 >>> ((4 : Int32) &&& 31).toUInt32).toInt32).toUInt32 >>> ((2 : Int32) &&& 31).toUInt32).toInt32)), .val (.int (23 : Int32))] []))
            refine own_st (fun _ k => XS.iloadN X0.here hx rfl (hb hby d6_74) rfl k) ?_
            show own_Go _ _ _ _ (s₁.setTop (mkF m 75 #[.val (.int ((((((((u0 ^^^ (-1 : Int32)) &&& (u0 - (1 : Int32))).toUInt32 >>> ((16 : Int32) &&& 31).toUInt32).toInt32).toUInt32 >>> ((4 : Int32) &&& 31).toUInt32).toInt32).toUInt32 >>> ((2 : Int32) &&& 31).toUInt32).toInt32)), .val (.int (23 : Int32))] [(.int (23 : Int32))]))
            refine own_st (fun _ k => XS.iloadN X0.here hx rfl (hb hby d6_75) rfl k) ?_
            show own_Go _ _ _ _ (s₁.setTop (mkF m 76 #[.val (.int ((((((((u0 ^^^ (-1 : Int32)) &&& (u0 - (1 : Int32))).toUInt32 >>> ((16 : Int32) &&& 31).toUInt32).toInt32).toUInt32 >>> ((4 : Int32) &&& 31).toUInt32).toInt32).toUInt32 >>> ((2 : Int32) &&& 31).toUInt32).toInt32)), .val (.int (23 : Int32))] [(.int ((((((((u0 ^^^ (-1 : Int32)) &&& (u0 - (1 : Int32))).toUInt32 >>> ((16 : Int32) &&& 31).toUInt32).toInt32).toUInt32 >>> ((4 : Int32) &&& 31).toUInt32).toInt32).toUInt32 >>> ((2 : Int32) &&& 31).toUInt32).toInt32)), (.int (23 : Int32))]))
            refine own_st (fun _ k => XS.iconst X0.here hx rfl (hb hby d6_76) k) ?_
            show own_Go _ _ _ _ (s₁.setTop (mkF m 77 #[.val (.int ((((((((u0 ^^^ (-1 : Int32)) &&& (u0 - (1 : Int32))).toUInt32 >>> ((16 : Int32) &&& 31).toUInt32).toInt32).toUInt32 >>> ((4 : Int32) &&& 31).toUInt32).toInt32).toUInt32 >>> ((2 : Int32) &&& 31).toUInt32).toInt32)), .val (.int (23 : Int32))] [(.int (1 : Int32)), (.int ((((((((u0 ^^^ (-1 : Int32)) &&& (u0 - (1 : Int32))).toUInt32 >>> ((16 : Int32) &&& 31).toUInt32).toInt32).toUInt32 >>> ((4 : Int32) &&& 31).toUInt32).toInt32).toUInt32 >>> ((2 : Int32) &&& 31).toUInt32).toInt32)), (.int (23 : Int32))]))
            refine own_st (fun _ k => XS.iushr X0.here hx rfl (hb hby d6_77) rfl k) ?_
            show own_Go _ _ _ _ (s₁.setTop (mkF m 78 #[.val (.int ((((((((u0 ^^^ (-1 : Int32)) &&& (u0 - (1 : Int32))).toUInt32 >>> ((16 : Int32) &&& 31).toUInt32).toInt32).toUInt32 >>> ((4 : Int32) &&& 31).toUInt32).toInt32).toUInt32 >>> ((2 : Int32) &&& 31).toUInt32).toInt32)), .val (.int (23 : Int32))] [(.int ((((((((((u0 ^^^ (-1 : Int32)) &&& (u0 - (1 : Int32))).toUInt32 >>> ((16 : Int32) &&& 31).toUInt32).toInt32).toUInt32 >>> ((4 : Int32) &&& 31).toUInt32).toInt32).toUInt32 >>> ((2 : Int32) &&& 31).toUInt32).toInt32).toUInt32 >>> ((1 : Int32) &&& 31).toUInt32).toInt32)), (.int (23 : Int32))]))
            refine own_st (fun _ k => XS.iadd X0.here hx rfl (hb hby d6_78) rfl k) ?_
            show own_Go _ _ _ _ (s₁.setTop (mkF m 79 #[.val (.int ((((((((u0 ^^^ (-1 : Int32)) &&& (u0 - (1 : Int32))).toUInt32 >>> ((16 : Int32) &&& 31).toUInt32).toInt32).toUInt32 >>> ((4 : Int32) &&& 31).toUInt32).toInt32).toUInt32 >>> ((2 : Int32) &&& 31).toUInt32).toInt32)), .val (.int (23 : Int32))] [(.int ((23 : Int32) + ((((((((((u0 ^^^ (-1 : Int32)) &&& (u0 - (1 : Int32))).toUInt32 >>> ((16 : Int32) &&& 31).toUInt32).toInt32).toUInt32 >>> ((4 : Int32) &&& 31).toUInt32).toInt32).toUInt32 >>> ((2 : Int32) &&& 31).toUInt32).toInt32).toUInt32 >>> ((1 : Int32) &&& 31).toUInt32).toInt32)))]))
            obtain ⟨fs, hr, hrun, hended, hW, hsame⟩ := X0.leave (v := some (.int ((23 : Int32) + ((((((((((u0 ^^^ (-1 : Int32)) &&& (u0 - (1 : Int32))).toUInt32 >>> ((16 : Int32) &&& 31).toUInt32).toInt32).toUInt32 >>> ((4 : Int32) &&& 31).toUInt32).toInt32).toUInt32 >>> ((2 : Int32) &&& 31).toUInt32).toInt32).toUInt32 >>> ((1 : Int32) &&& 31).toUInt32).toInt32)))) (fun h => by rw [Bd.returns] at h; cases h)
            refine own_out (own_retI X0 hx Bd.returns (hb hby d6_79) hr) ⟨hrun, hended, _, _, rfl, ?_, ⟨_, rfl⟩, hW, hsame.mono (by decide) (by decide)⟩
            show Q6 Z u0 h0 n0 _ s₁.heap _
            have hv : own_ntz u0 = ((23 : Int32) + ((((((((((u0 ^^^ (-1 : Int32)) &&& (u0 - (1 : Int32))).toUInt32 >>> ((16 : Int32) &&& 31).toUInt32).toInt32).toUInt32 >>> ((4 : Int32) &&& 31).toUInt32).toInt32).toUInt32 >>> ((2 : Int32) &&& 31).toUInt32).toInt32).toUInt32 >>> ((1 : Int32) &&& 31).toUInt32).toInt32)) := by
              unfold own_ntz
              rw [if_pos hc1, if_pos hc2, if_neg hc3, if_pos hc7, if_pos hc8]
            exact ⟨by rw [hv], N0, e0⟩
          · skip
            refine own_st (fun _ k => XS.icmpYes X0.here hx rfl (pc0 := 64) (pc' := 74) rfl (hb hby d6_64) rfl (flt hc8).2.2.2 (by decide) (by decide) k) ?_
            show own_Go _ _ _ _ (s₁.setTop (mkF m 74 #[.val (.int ((((((u0 ^^^ (-1 : Int32)) &&& (u0 - (1 : Int32))).toUInt32 >>> ((16 : Int32) &&& 31).toUInt32).toInt32).toUInt32 >>> ((4 : Int32) &&& 31).toUInt32).toInt32)), .val (.int (21 : Int32))] []))
            refine own_st (fun _ k => XS.iloadN X0.here hx rfl (hb hby d6_74) rfl k) ?_
            show own_Go _ _ _ _ (s₁.setTop (mkF m 75 #[.val (.int ((((((u0 ^^^ (-1 : Int32)) &&& (u0 - (1 : Int32))).toUInt32 >>> ((16 : Int32) &&& 31).toUInt32).toInt32).toUInt32 >>> ((4 : Int32) &&& 31).toUInt32).toInt32)), .val (.int (21 : Int32))] [(.int (21 : Int32))]))
            refine own_st (fun _ k => XS.iloadN X0.here hx rfl (hb hby d6_75) rfl k) ?_
            show own_Go _ _ _ _ (s₁.setTop (mkF m 76 #[.val (.int ((((((u0 ^^^ (-1 : Int32)) &&& (u0 - (1 : Int32))).toUInt32 >>> ((16 : Int32) &&& 31).toUInt32).toInt32).toUInt32 >>> ((4 : Int32) &&& 31).toUInt32).toInt32)), .val (.int (21 : Int32))] [(.int ((((((u0 ^^^ (-1 : Int32)) &&& (u0 - (1 : Int32))).toUInt32 >>> ((16 : Int32) &&& 31).toUInt32).toInt32).toUInt32 >>> ((4 : Int32) &&& 31).toUInt32).toInt32)), (.int (21 : Int32))]))
            refine own_st (fun _ k => XS.iconst X0.here hx rfl (hb hby d6_76) k) ?_
            show own_Go _ _ _ _ (s₁.setTop (mkF m 77 #[.val (.int ((((((u0 ^^^ (-1 : Int32)) &&& (u0 - (1 : Int32))).toUInt32 >>> ((16 : Int32) &&& 31).toUInt32).toInt32).toUInt32 >>> ((4 : Int32) &&& 31).toUInt32).toInt32)), .val (.int (21 : Int32))] [(.int (1 : Int32)), (.int ((((((u0 ^^^ (-1 : Int32)) &&& (u0 - (1 : Int32))).toUInt32 >>> ((16 : Int32) &&& 31).toUInt32).toInt32).toUInt32 >>> ((4 : Int32) &&& 31).toUInt32).toInt32)), (.int (21 : Int32))]))
            refine own_st (fun _ k => XS.iushr X0.here hx rfl (hb hby d6_77) rfl k) ?_
            show own_Go _ _ _ _ (s₁.setTop (mkF m 78 #[.val (.int ((((((u0 ^^^ (-1 : Int32)) &&& (u0 - (1 : Int32))).toUInt32 >>> ((16 : Int32) &&& 31).toUInt32).toInt32).toUInt32 >>> ((4 : Int32) &&& 31).toUInt32).toInt32)), .val (.int (21 : Int32))] [(.int ((((((((u0 ^^^ (-1 : Int32)) &&& (u0 - (1 : Int32))).toUInt32 >>> ((16 : Int32) &&& 31).toUInt32).toInt32).toUInt32 >>> ((4 : Int32) &&& 31).toUInt32).toInt32).toUInt32 >>> ((1 : Int32) &&& 31).toUInt32).toInt32)), (.int (21 : Int32))]))
            refine own_st (fun _ k => XS.iadd X0.here hx rfl (hb hby d6_78) rfl k) ?_
            show own_Go _ _ _ _ (s₁.setTop (mkF m 79 #[.val (.int ((((((u0 ^^^ (-1 : Int32)) &&& (u0 - (1 : Int32))).toUInt32 >>> ((16 : Int32) &&& 31).toUInt32).toInt32).toUInt32 >>> ((4 : Int32) &&& 31).toUInt32).toInt32)), .val (.int (21 : Int32))] [(.int ((21 : Int32) + ((((((((u0 ^^^ (-1 : Int32)) &&& (u0 - (1 : Int32))).toUInt32 >>> ((16 : Int32) &&& 31).toUInt32).toInt32).toUInt32 >>> ((4 : Int32) &&& 31).toUInt32).toInt32).toUInt32 >>> ((1 : Int32) &&& 31).toUInt32).toInt32)))]))
            obtain ⟨fs, hr, hrun, hended, hW, hsame⟩ := X0.leave (v := some (.int ((21 : Int32) + ((((((((u0 ^^^ (-1 : Int32)) &&& (u0 - (1 : Int32))).toUInt32 >>> ((16 : Int32) &&& 31).toUInt32).toInt32).toUInt32 >>> ((4 : Int32) &&& 31).toUInt32).toInt32).toUInt32 >>> ((1 : Int32) &&& 31).toUInt32).toInt32)))) (fun h => by rw [Bd.returns] at h; cases h)
            refine own_out (own_retI X0 hx Bd.returns (hb hby d6_79) hr) ⟨hrun, hended, _, _, rfl, ?_, ⟨_, rfl⟩, hW, hsame.mono (by decide) (by decide)⟩
            show Q6 Z u0 h0 n0 _ s₁.heap _
            have hv : own_ntz u0 = ((21 : Int32) + ((((((((u0 ^^^ (-1 : Int32)) &&& (u0 - (1 : Int32))).toUInt32 >>> ((16 : Int32) &&& 31).toUInt32).toInt32).toUInt32 >>> ((4 : Int32) &&& 31).toUInt32).toInt32).toUInt32 >>> ((1 : Int32) &&& 31).toUInt32).toInt32)) := by
              unfold own_ntz
              rw [if_pos hc1, if_pos hc2, if_neg hc3, if_pos hc7, if_neg hc8]
            exact ⟨by rw [hv], N0, e0⟩
        · skip
          refine own_st (fun _ k => XS.icmpYes X0.here hx rfl (pc0 := 52) (pc' := 62) rfl (hb hby d6_52) rfl (flt hc7).2.2.2 (by decide) (by decide) k) ?_
          show own_Go _ _ _ _ (s₁.setTop (mkF m 62 #[.val (.int ((((u0 ^^^ (-1 : Int32)) &&& (u0 - (1 : Int32))).toUInt32 >>> ((16 : Int32) &&& 31).toUInt32).toInt32)), .val (.int (17 : Int32))] []))
          refine own_st (fun _ k => XS.iloadN X0.here hx rfl (hb hby d6_62) rfl k) ?_
          show own_Go _ _ _ _ (s₁.setTop (mkF m 63 #[.val (.int ((((u0 ^^^ (-1 : Int32)) &&& (u0 - (1 : Int32))).toUInt32 >>> ((16 : Int32) &&& 31).toUInt32).toInt32)), .val (.int (17 : Int32))] [(.int ((((u0 ^^^ (-1 : Int32)) &&& (u0 - (1 : Int32))).toUInt32 >>> ((16 : Int32) &&& 31).toUInt32).toInt32))]))
          refine own_st (fun _ k => XS.iconst X0.here hx rfl (hb hby d6_63) k) ?_
          show own_Go _ _ _ _ (s₁.setTop (mkF m 64 #[.val (.int ((((u0 ^^^ (-1 : Int32)) &&& (u0 - (1 : Int32))).toUInt32 >>> ((16 : Int32) &&& 31).toUInt32).toInt32)), .val (.int (17 : Int32))] [(.int (4 : Int32)), (.int ((((u0 ^^^ (-1 : Int32)) &&& (u0 - (1 : Int32))).toUInt32 >>> ((16 : Int32) &&& 31).toUInt32).toInt32))]))
          by_cases hc9 : (4 : Int32) < ((((u0 ^^^ (-1 : Int32)) &&& (u0 - (1 : Int32))).toUInt32 >>> ((16 : Int32) &&& 31).toUInt32).toInt32)
          · skip
            refine own_st (fun _ k => XS.icmpNo X0.here hx rfl (hb hby d6_64) rfl (tlt hc9).2.2.2 k) ?_
            show own_Go _ _ _ _ (s₁.setTop (mkF m 67 #[.val (.int ((((u0 ^^^ (-1 : Int32)) &&& (u0 - (1 : Int32))).toUInt32 >>> ((16 : Int32) &&& 31).toUInt32).toInt32)), .val (.int (17 : Int32))] []))
            refine own_st (fun _ k => XS.iinc X0.here hx rfl (hb hby d6_67) rfl (l' := #[.val (.int ((((u0 ^^^ (-1 : Int32)) &&& (u0 - (1 : Int32))).toUInt32 >>> ((16 : Int32) &&& 31).toUInt32).toInt32)), .val (.int (19 : Int32))]) rfl k) ?_
            show own_Go _ _ _ _ (s₁.setTop (mkF m 70 #[.val (.int ((((u0 ^^^ (-1 : Int32)) &&& (u0 - (1 : Int32))).toUInt32 >>> ((16 : Int32) &&& 31).toUInt32).toInt32)), .val (.int (19 : Int32))] []))
            refine own_st (fun _ k => XS.iloadN X0.here hx rfl (hb hby d6_70) rfl k) ?_
            show own_Go _ _ _ _ (s₁.setTop (mkF m 71 #[.val (.int ((((u0 ^^^ (-1 : Int32)) &&& (u0 - (1 : Int32))).toUInt32 >>> ((16 : Int32) &&& 31).toUInt32).toInt32)), .val (.int (19 : Int32))] [(.int ((((u0 ^^^ (-1 : Int32)) &&& (u0 - (1 : Int32))).toUInt32 >>> ((16 : Int32) &&& 31).toUInt32).toInt32))]))
            refine own_st (fun _ k => XS.iconst X0.here hx rfl (hb hby d6_71) k) ?_
            show own_Go _ _ _ _ (s₁.setTop (mkF m 72 #[.val (.int ((((u0 ^^^ (-1 : Int32)) &&& (u0 - (1 : Int32))).toUInt32 >>> ((16 : Int32) &&& 31).toUInt32).toInt32)), .val (.int (19 : Int32))] [(.int (2 : Int32)), (.int ((((u0 ^^^ (-1 : Int32)) &&& (u0 - (1 : Int32))).toUInt32 >>> ((16 : Int32) &&& 31).toUInt32).toInt32))]))
            refine own_st (fun _ k => XS.iushr X0.here hx rfl (hb hby d6_72) rfl k) ?_
            show own_Go _ _ _ _ (s₁.setTop (mkF m 73 #[.val (.int ((((u0 ^^^ (-1 : Int32)) &&& (u0 - (1 : Int32))).toUInt32 >>> ((16 : Int32) &&& 31).toUInt32).toInt32)), .val (.int (19 : Int32))] [(.int ((((((u0 ^^^ (-1 : Int32)) &&& (u0 - (1 : Int32))).toUInt32 >>> ((16 : Int32) &&& 31).toUInt32).toInt32).toUInt32 >>> ((2 : Int32) &&& 31).toUInt32).toInt32))]))
            refine own_st (fun _ k => XS.istoreN X0.here hx rfl (hb hby d6_73) rfl (l' := #[.val (.int ((((((u0 ^^^ (-1 : Int32)) &&& (u0 - (1 : Int32))).toUInt32 >>> ((16 : Int32) &&& 31).toUInt32).toInt32).toUInt32 >>> ((2 : Int32) &&& 31).toUInt32).toInt32)), .val (.int (19 : Int32))]) rfl k) ?_
            show own_Go _ _ _ _ (s₁.setTop (mkF m 74 #[.val (.int ((((((u0 ^^^ (-1 : Int32)) &&& (u0 - (1 : Int32))).toUInt32 >>> ((16 : Int32) &&& 31).toUInt32).toInt32).toUInt32 >>> ((2 : Int32) &&& 31).toUInt32).toInt32)), .val (.int (19 : Int32))] []))
            refine own_st (fun _ k => XS.iloadN X0.here hx rfl (hb hby d6_74) rfl k) ?_
            show own_Go _ _ _ _ (s₁.setTop (mkF m 75 #[.val (.int ((((((u0 ^^^ (-1 : Int32)) &&& (u0 - (1 : Int32))).toUInt32 >>> ((16 : Int32) &&& 31).toUInt32).toInt32).toUInt32 >>> ((2 : Int32) &&& 31).toUInt32).toInt32)), .val (.int (19 : Int32))] [(.int (19 : Int32))]))
            refine own_st (fun _ k => XS.iloadN X0.here hx rfl (hb hby d6_75) rfl k) ?_
            show own_Go _ _ _ _ (s₁.setTop (mkF m 76 #[.val (.int ((((((u0 ^^^ (-1 : Int32)) &&& (u0 - (1 : Int32))).toUInt32 >>> ((16 : Int32) &&& 31).toUInt32).toInt32).toUInt32 >>> ((2 : Int32) &&& 31).toUInt32).toInt32)), .val (.int (19 : Int32))] [(.int ((((((u0 ^^^ (-1 : Int32)) &&& (u0 - (1 : Int32))).toUInt32 >>> ((16 : Int32) &&& 31).toUInt32).toInt32).toUInt32 >>> ((2 : Int32) &&& 31).toUInt32).toInt32)), (.int (19 : Int32))]))
            refine own_st (fun _ k => XS.iconst X0.here hx rfl (hb hby d6_76) k) ?_
            show own_Go _ _ _ _ (s₁.setTop (mkF m 77 #[.val (.int ((((((u0 ^^^ (-1 : Int32)) &&& (u0 - (1 : Int32))).toUInt32 >>> ((16 : Int32) &&& 31).toUInt32).toInt32).toUInt32 >>> ((2 : Int32) &&& 31).toUInt32).toInt32)), .val (.int (19 : Int32))] [(.int (1 : Int32)), (.int ((((((u0 ^^^ (-1 : Int32)) &&& (u0 - (1 : Int32))).toUInt32 >>> ((16 : Int32) &&& 31).toUInt32).toInt32).toUInt32 >>> ((2 : Int32) &&& 31).toUInt32).toInt32)), (.int (19 : Int32))]))
            refine own_st (fun _ k => XS.iushr X0.here hx rfl (hb hby d6_77) rfl k) ?_
            show own_Go _ _ _ _ (s₁.setTop (mkF m 78 #[.val (.int ((((((u0 ^^^ (-1 : Int32)) &&& (u0 - (1 : Int32))).toUInt32 >>> ((16 : Int32) &&& 31).toUInt32).toInt32).toUInt32 >>> ((2 : Int32) &&& 31).toUInt32).toInt32)), .val (.int (19 : Int32))] [(.int ((((((((u0 ^^^ (-1 : Int32)) &&& (u0 - (1 : Int32))).toUInt32 >>> ((16 : Int32) &&& 31).toUInt32).toInt32).toUInt32 >>> ((2 : Int32) &&& 31).toUInt32).toInt32).toUInt32 >>> ((1 : Int32) &&& 31).toUInt32).toInt32)), (.int (19 : Int32))]))
            refine own_st (fun _ k => XS.iadd X0.here hx rfl (hb hby d6_78) rfl k) ?_
            show own_Go _ _ _ _ (s₁.setTop (mkF m 79 #[.val (.int ((((((u0 ^^^ (-1 : Int32)) &&& (u0 - (1 : Int32))).toUInt32 >>> ((16 : Int32) &&& 31).toUInt32).toInt32).toUInt32 >>> ((2 : Int32) &&& 31).toUInt32).toInt32)), .val (.int (19 : Int32))] [(.int ((19 : Int32) + ((((((((u0 ^^^ (-1 : Int32)) &&& (u0 - (1 : Int32))).toUInt32 >>> ((16 : Int32) &&& 31).toUInt32).toInt32).toUInt32 >>> ((2 : Int32) &&& 31).toUInt32).toInt32).toUInt32 >>> ((1 : Int32) &&& 31).toUInt32).toInt32)))]))
            obtain ⟨fs, hr, hrun, hended, hW, hsame⟩ := X0.leave (v := some (.int ((19 : Int32) + ((((((((u0 ^^^ (-1 : Int32)) &&& (u0 - (1 : Int32))).toUInt32 >>> ((16 : Int32) &&& 31).toUInt32).toInt32).toUInt32 >>> ((2 : Int32) &&& 31).toUInt32).toInt32).toUInt32 >>> ((1 : Int32) &&& 31).toUInt32).toInt32)))) (fun h => by rw [Bd.returns] at h; cases h)
            refine own_out (own_retI X0 hx Bd.returns (hb hby d6_79) hr) ⟨hrun, hended, _, _, rfl, ?_, ⟨_, rfl⟩, hW, hsame.mono (by decide) (by decide)⟩
            show Q6 Z u0 h0 n0 _ s₁.heap _
            have hv : own_ntz u0 = ((19 : Int32) + ((((((((u0 ^^^ (-1 : Int32)) &&& (u0 - (1 : Int32))).toUInt32 >>> ((16 : Int32) &&& 31).toUInt32).toInt32).toUInt32 >>> ((2 : Int32) &&& 31).toUInt32).toInt32).toUInt32 >>> ((1 : Int32) &&& 31).toUInt32).toInt32)) := by
              unfold own_ntz
              rw [if_pos hc1, if_pos hc2, if_neg hc3, if_neg hc7, if_pos hc9]
            exact ⟨by rw [hv], N0, e0⟩
          · skip
            refine own_st (fun _ k => XS.icmpYes X0.here hx rfl (pc0 := 64) (pc' := 74) rfl (hb hby d6_64) rfl (flt hc9).2.2.2 (by decide) (by decide) k) ?_
            show own_Go _ _ _ _ (s₁.setTop (mkF m 74 #[.val (.int ((((u0 ^^^ (-1 : Int32)) &&& (u0 - (1 : Int32))).toUInt32 >>> ((16 : Int32) &&& 31).toUInt32).toInt32)), .val (.int (17 : Int32))] []))
            refine own_st (fun _ k => XS.iloadN X0.here hx rfl (hb hby d6_74) rfl k) ?_
            show own_Go _ _ _ _ (s₁.setTop (mkF m 75 #[.val (.int ((((u0 ^^^ (-1 : Int32)) &&& (u0 - (1 : Int32))).toUInt32 >>> ((16 : Int32) &&& 31).toUInt32).toInt32)), .val (.int (17 : Int32))] [(.int (17 : Int32))]))
            refine own_st (fun _ k => XS.iloadN X0.here hx rfl (hb hby d6_75) rfl k) ?_
            show own_Go _ _ _ _ (s₁.setTop (mkF m 76 #[.val (.int ((((u0 ^^^ (-1 : Int32)) &&& (u0 - (1 : Int32))).toUInt32 >>> ((16 : Int32) &&& 31).toUInt32).toInt32)), .val (.int (17 : Int32))] [(.int ((((u0 ^^^ (-1 : Int32)) &&& (u0 - (1 : Int32))).toUInt32 >>> ((16 : Int32) &&& 31).toUInt32).toInt32)), (.int (17 : Int32))]))
            refine own_st (fun _ k => XS.iconst X0.here hx rfl (hb hby d6_76) k) ?_
            show own_Go _ _ _ _ (s₁.setTop (mkF m 77 #[.val (.int ((((u0 ^^^ (-1 : Int32)) &&& (u0 - (1 : Int32))).toUInt32 >>> ((16 : Int32) &&& 31).toUInt32).toInt32)), .val (.int (17 : Int32))] [(.int (1 : Int32)), (.int ((((u0 ^^^ (-1 : Int32)) &&& (u0 - (1 : Int32))).toUInt32 >>> ((16 : Int32) &&& 31).toUInt32).toInt32)), (.int (17 : Int32))]))
            refine own_st (fun _ k => XS.iushr X0.here hx rfl (hb hby d6_77) rfl k) ?_
            show own_Go _ _ _ _ (s₁.setTop (mkF m 78 #[.val (.int ((((u0 ^^^ (-1 : Int32)) &&& (u0 - (1 : Int32))).toUInt32 >>> ((16 : Int32) &&& 31).toUInt32).toInt32)), .val (.int (17 : Int32))] [(.int ((((((u0 ^^^ (-1 : Int32)) &&& (u0 - (1 : Int32))).toUInt32 >>> ((16 : Int32) &&& 31).toUInt32).toInt32).toUInt32 >>> ((1 : Int32) &&& 31).toUInt32).toInt32)), (.int (17 : Int32))]))
            refine own_st (fun _ k => XS.iadd X0.here hx rfl (hb hby d6_78) rfl k) ?_
            show own_Go _ _ _ _ (s₁.setTop (mkF m 79 #[.val (.int ((((u0 ^^^ (-1 : Int32)) &&& (u0 - (1 : Int32))).toUInt32 >>> ((16 : Int32) &&& 31).toUInt32).toInt32)), .val (.int (17 : Int32))] [(.int ((17 : Int32) + ((((((u0 ^^^ (-1 : Int32)) &&& (u0 - (1 : Int32))).toUInt32 >>> ((16 : Int32) &&& 31).toUInt32).toInt32).toUInt32 >>> ((1 : Int32) &&& 31).toUInt32).toInt32)))]))
            obtain ⟨fs, hr, hrun, hended, hW, hsame⟩ := X0.leave (v := some (.int ((17 : Int32) + ((((((u0 ^^^ (-1 : Int32)) &&& (u0 - (1 : Int32))).toUInt32 >>> ((16 : Int32) &&& 31).toUInt32).toInt32).toUInt32 >>> ((1 : Int32) &&& 31).toUInt32).toInt32)))) (fun h => by rw [Bd.returns] at h; cases h)
            refine own_out (own_retI X0 hx Bd.returns (hb hby d6_79) hr) ⟨hrun, hended, _, _, rfl, ?_, ⟨_, rfl⟩, hW, hsame.mono (by decide) (by decide)⟩
            show Q6 Z u0 h0 n0 _ s₁.heap _
            have hv : own_ntz u0 = ((17 : Int32) + ((((((u0 ^^^ (-1 : Int32)) &&& (u0 - (1 : Int32))).toUInt32 >>> ((16 : Int32) &&& 31).toUInt32).toInt32).toUInt32 >>> ((1 : Int32) &&& 31).toUInt32).toInt32)) := by
              unfold own_ntz
              rw [if_pos hc1, if_pos hc2, if_neg hc3, if_neg hc7, if_neg hc9]
            exact ⟨by rw [hv], N0, e0⟩
    · skip
      refine own_st (fun _ k => XS.icmpYes X0.here hx rfl (pc0 := 23) (pc' := 34) rfl (hb hby d6_23) rfl (flt hc2).2.2.2 (by decide) (by decide) k) ?_
      show own_Go _ _ _ _ (s₁.setTop (mkF m 34 #[.val (.int ((u0 ^^^ (-1 : Int32)) &&& (u0 - (1 : Int32)))), .val (.int (1 : Int32))] []))
      refine own_st (fun _ k => XS.iloadN X0.here hx rfl (hb hby d6_34) rfl k) ?_
      show own_Go _ _ _ _ (s₁.setTop (mkF m 35 #[.val (.int ((u0 ^^^ (-1 : Int32)) &&& (u0 - (1 : Int32)))), .val (.int (1 : Int32))] [(.int ((u0 ^^^ (-1 : Int32)) &&& (u0 - (1 : Int32))))]))
      refine own_st (fun _ k => XS.sipush X0.here hx rfl (hb hby d6_35) k) ?_
      show own_Go _ _ _ _ (s₁.setTop (mkF m 38 #[.val (.int ((u0 ^^^ (-1 : Int32)) &&& (u0 - (1 : Int32)))), .val (.int (1 : Int32))] [(.int (256 : Int32)), (.int ((u0 ^^^ (-1 : Int32)) &&& (u0 - (1 : Int32))))]))
      by_cases hc10 : (256 : Int32) < ((u0 ^^^ (-1 : Int32)) &&& (u0 - (1 : Int32)))
      · skip
        refine own_st (fun _ k => XS.icmpNo X0.here hx rfl (hb hby d6_38) rfl (tlt hc10).2.2.2 k) ?_
        show own_Go _ _ _ _ (s₁.setTop (mkF m 41 #[.val (.int ((u0 ^^^ (-1 : Int32)) &&& (u0 - (1 : Int32)))), .val (.int (1 : Int32))] []))
        refine own_st (fun _ k => XS.iinc X0.here hx rfl (hb hby d6_41) rfl (l' := #[.val (.int ((u0 ^^^ (-1 : Int32)) &&& (u0 - (1 : Int32)))), .val (.int (9 : Int32))]) rfl k) ?_
        show own_Go _ _ _ _ (s₁.setTop (mkF m 44 #[.val (.int ((u0 ^^^ (-1 : Int32)) &&& (u0 - (1 : Int32)))), .val (.int (9 : Int32))] []))
        refine own_st (fun _ k => XS.iloadN X0.here hx rfl (hb hby d6_44) rfl k) ?_
        show own_Go _ _ _ _ (s₁.setTop (mkF m 45 #[.val (.int ((u0 ^^^ (-1 : Int32)) &&& (u0 - (1 : Int32)))), .val (.int (9 : Int32))] [(.int ((u0 ^^^ (-1 : Int32)) &&& (u0 - (1 : Int32))))]))
        refine own_st (fun _ k => XS.bipush X0.here hx rfl (hb hby d6_45) k) ?_
        show own_Go _ _ _ _ (s₁.setTop (mkF m 47 #[.val (.int ((u0 ^^^ (-1 : Int32)) &&& (u0 - (1 : Int32)))), .val (.int (9 : Int32))] [(.int (8 : Int32)), (.int ((u0 ^^^ (-1 : Int32)) &&& (u0 - (1 : Int32))))]))
        refine own_st (fun _ k => XS.iushr X0.here hx rfl (hb hby d6_47) rfl k) ?_
        show own_Go _ _ _ _ (s₁.setTop (mkF m 48 #[.val (.int ((u0 ^^^ (-1 : Int32)) &&& (u0 - (1 : Int32)))), .val (.int (9 : Int32))] [(.int ((((u0 ^^^ (-1 : Int32)) &&& (u0 - (1 : Int32))).toUInt32 >>> ((8 : Int32) &&& 31).toUInt32).toInt32))]))
        refine own_st (fun _ k => XS.istoreN X0.here hx rfl (hb hby d6_48) rfl (l' := #[.val (.int ((((u0 ^^^ (-1 : Int32)) &&& (u0 - (1 : Int32))).toUInt32 >>> ((8 : Int32) &&& 31).toUInt32).toInt32)), .val (.int (9 : Int32))]) rfl k) ?_
        show own_Go _ _ _ _ (s₁.setTop (mkF m 49 #[.val (.int ((((u0 ^^^ (-1 : Int32)) &&& (u0 - (1 : Int32))).toUInt32 >>> ((8 : Int32) &&& 31).toUInt32).toInt32)), .val (.int (9 : Int32))] []))
        refine own_st (fun _ k => XS.iloadN X0.here hx rfl (hb hby d6_49) rfl k) ?_
        show own_Go _ _ _ _ (s₁.setTop (mkF m 50 #[.val (.int ((((u0 ^^^ (-1 : Int32)) &&& (u0 - (1 : Int32))).toUInt32 >>> ((8 : Int32) &&& 31).toUInt32).toInt32)), .val (.int (9 : Int32))] [(.int ((((u0 ^^^ (-1 : Int32)) &&& (u0 - (1 : Int32))).toUInt32 >>> ((8 : Int32) &&& 31).toUInt32).toInt32))]))
        refine own_st (fun _ k => XS.bipush X0.here hx rfl (hb hby d6_50) k) ?_
        show own_Go _ _ _ _ (s₁.setTop (mkF m 52 #[.val (.int ((((u0 ^^^ (-1 : Int32)) &&& (u0 - (1 : Int32))).toUInt32 >>> ((8 : Int32) &&& 31).toUInt32).toInt32)), .val (.int (9 : Int32))] [(.int (16 : Int32)), (.int ((((u0 ^^^ (-1 : Int32)) &&& (u0 - (1 : Int32))).toUInt32 >>> ((8 : Int32) &&& 31).toUInt32).toInt32))]))
        by_cases hc11 : (16 : Int32) < ((((u0 ^^^ (-1 : Int32)) &&& (u0 - (1 : Int32))).toUInt32 >>> ((8 : Int32) &&& 31).toUInt32).toInt32)
        · skip
          refine own_st (fun _ k => XS.icmpNo X0.here hx rfl (hb hby d6_52) rfl (tlt hc11).2.2.2 k) ?_
          show own_Go _ _ _ _ (s₁.setTop (mkF m 55 #[.val (.int ((((u0 ^^^ (-1 : Int32)) &&& (u0 - (1 : Int32))).toUInt32 >>> ((8 : Int32) &&& 31).toUInt32).toInt32)), .val (.int (9 : Int32))] []))
          refine own_st (fun _ k => XS.iinc X0.here hx rfl (hb hby d6_55) rfl (l' := #[.val (.int ((((u0 ^^^ (-1 : Int32)) &&& (u0 - (1 : Int32))).toUInt32 >>> ((8 : Int32) &&& 31).toUInt32).toInt32)), .val (.int (13 : Int32))]) rfl k) ?_
          show own_Go _ _ _ _ (s₁.setTop (mkF m 58 #[.val (.int ((((u0 ^^^ (-1 : Int32)) &&& (u0 - (1 : Int32))).toUInt32 >>> ((8 : Int32) &&& 31).toUInt32).toInt32)), .val (.int (13 : Int32))] []))
          refine own_st (fun _ k => XS.iloadN X0.here hx rfl (hb hby d6_58) rfl k) ?_
          show own_Go _ _ _ _ (s₁.setTop (mkF m 59 #[.val (.int ((((u0 ^^^ (-1 : Int32)) &&& (u0 - (1 : Int32))).toUInt32 >>> ((8 : Int32) &&& 31).toUInt32).toInt32)), .val (.int (13 : Int32))] [(.int ((((u0 ^^^ (-1 : Int32)) &&& (u0 - (1 : Int32))).toUInt32 >>> ((8 : Int32) &&& 31).toUInt32).toInt32))]))
          refine own_st (fun _ k => XS.iconst X0.here hx rfl (hb hby d6_59) k) ?_
          show own_Go _ _ _ _ (s₁.setTop (mkF m 60 #[.val (.int ((((u0 ^^^ (-1 : Int32)) &&& (u0 - (1 : Int32))).toUInt32 >>> ((8 : Int32) &&& 31).toUInt32).toInt32)), .val (.int (13 : Int32))] [(.int (4 : Int32)), (.int ((((u0 ^^^ (-1 : Int32)) &&& (u0 - (1 : Int32))).toUInt32 >>> ((8 : Int32) &&& 31).toUInt32).toInt32))]))
          refine own_st (fun _ k => XS.iushr X0.here hx rfl (hb hby d6_60) rfl k) ?_
          show own_Go _ _ _ _ (s₁.setTop (mkF m 61 #[.val (.int ((((u0 ^^^ (-1 : Int32)) &&& (u0 - (1 : Int32))).toUInt32 >>> ((8 : Int32) &&& 31).toUInt32).toInt32)), .val (.int (13 : Int32))] [(.int ((((((u0 ^^^ (-1 : Int32)) &&& (u0 - (1 : Int32))).toUInt32 >>> ((8 : Int32) &&& 31).toUInt32).toInt32).toUInt32 >>> ((4 : Int32) &&& 31).toUInt32).toInt32))]))
          refine own_st (fun _ k => XS.istoreN X0.here hx rfl (hb hby d6_61) rfl (l' := #[.val (.int ((((((u0 ^^^ (-1 : Int32)) &&& (u0 - (1 : Int32))).toUInt32 >>> ((8 : Int32) &&& 31).toUInt32).toInt32).toUInt32 >>> ((4 : Int32) &&& 31).toUInt32).toInt32)), .val (.int (13 : Int32))]) rfl k) ?_
          show own_Go _ _ _ _ (s₁.setTop (mkF m 62 #[.val (.int ((((((u0 ^^^ (-1 : Int32)) &&& (u0 - (1 : Int32))).toUInt32 >>> ((8 : Int32) &&& 31).toUInt32).toInt32).toUInt32 >>> ((4 : Int32) &&& 31).toUInt32).toInt32)), .val (.int (13 : Int32))] []))
          refine own_st (fun _ k => XS.iloadN X0.here hx rfl (hb hby d6_62) rfl k) ?_
          show own_Go _ _ _ _ (s₁.setTop (mkF m 63 #[.val (.int ((((((u0 ^^^ (-1 : Int32)) &&& (u0 - (1 : Int32))).toUInt32 >>> ((8 : Int32) &&& 31).toUInt32).toInt32).toUInt32 >>> ((4 : Int32) &&& 31).toUInt32).toInt32)), .val (.int (13 : Int32))] [(.int ((((((u0 ^^^ (-1 : Int32)) &&& (u0 - (1 : Int32))).toUInt32 >>> ((8 : Int32) &&& 31).toUInt32).toInt32).toUInt32 >>> ((4 : Int32) &&& 31).toUInt32).toInt32))]))
          refine own_st (fun _ k => XS.iconst X0.here hx rfl (hb hby d6_63) k) ?_
          show own_Go _ _ _ _ (s₁.setTop (mkF m 64 #[.val (.int ((((((u0 ^^^ (-1 : Int32)) &&& (u0 - (1 : Int32))).toUInt32 >>> ((8 : Int32) &&& 31).toUInt32).toInt32).toUInt32 >>> ((4 : Int32) &&& 31).toUInt32).toInt32)), .val (.int (13 : Int32))] [(.int (4 : Int32)), (.int ((((((u0 ^^^ (-1 : Int32)) &&& (u0 - (1 : Int32))).toUInt32 >>> ((8 : Int32) &&& 31).toUInt32).toInt32).toUInt32 >>> ((4 : Int32) &&& 31).toUInt32).toInt32))]))
          by_cases hc12 : (4 : Int32) < ((((((u0 ^^^ (-1 : Int32)) &&& (u0 - (1 : Int32))).toUInt32 >>> ((8 : Int32) &&& 31).toUInt32).toInt32).toUInt32 >>> ((4 : Int32) &&& 31).toUInt32).toInt32)
          · skip
            refine own_st (fun _ k => XS.icmpNo X0.here hx rfl (hb hby d6_64) rfl (tlt hc12).2.2.2 k) ?_
            show own_Go _ _ _ _ (s₁.setTop (mkF m 67 #[.val (.int ((((((u0 ^^^ (-1 : Int32)) &&& (u0 - (1 : Int32))).toUInt32 >>> ((8 : Int32) &&& 31).toUInt32).toInt32).toUInt32 >>> ((4 : Int32) &&& 31).toUInt32).toInt32)), .val (.int (13 : Int32))] []))
            refine own_st (fun _ k => XS.iinc X0.here hx rfl (hb hby d6_67) rfl (l' := #[.val (.int ((((((u0 ^^^ (-1 : Int32)) &&& (u0 - (1 : Int32))).toUInt32 >>> ((8 : Int32) &&& 31).toUInt32).toInt32).toUInt32 >>> ((4 : Int32) &&& 31).toUInt32).toInt32)), .val (.int (15 : Int32))]) rfl k) ?_
            show own_Go _ _ _ _ (s₁.setTop (mkF m 70 #[.val (.int ((((((u0 ^^^ (-1 : Int32)) &&& (u0 - (1 : Int32))).toUInt32 >>> ((8 : Int32) &&& 31).toUInt32).toInt32).toUInt32 >>> ((4 : Int32) &&& 31).toUInt32).toInt32)), .val (.int (15 : Int32))] []))
            refine own_st (fun _ k => XS.iloadN X0.here hx rfl (hb hby d6_70) rfl k) ?_
            show own_Go _ _ _ _ (s₁.setTop (mkF m 71 #[.val (.int ((((((u0 ^^^ (-1 : Int32)) &&& (u0 - (1 : Int32))).toUInt32 >>> ((8 : Int32) &&& 31).toUInt32).toInt32).toUInt32 >>> ((4 : Int32) &&& 31).toUInt32).toInt32)), .val (.int (15 : Int32))] [(.int ((((((u0 ^^^ (-1 : Int32)) &&& (u0 - (1 : Int32))).toUInt32 >>> ((8 : Int32) &&& 31).toUInt32).toInt32).toUInt32 >>> ((4 : Int32) &&& 31).toUInt32).toInt32))]))
            refine own_st (fun _ k => XS.iconst X0.here hx rfl (hb hby d6_71) k) ?_
            show own_Go _ _ _ _ (s₁.setTop (mkF m 72 #[.val (.int ((((((u0 ^^^ (-1 : Int32)) &&& (u0 - (1 : Int32))).toUInt32 >>> ((8 : Int32) &&& 31).toUInt32).toInt32).toUInt32 >>> ((4 : Int32) &&& 31).toUInt32).toInt32)), .val (.int (15 : Int32))] [(.int (2 : Int32)), (.int ((((((u0 ^^^ (-1 : Int32)) &&& (u0 - (1 : Int32))).toUInt32 >>> ((8 : Int32) &&& 31).toUInt32).toInt32).toUInt32 >>> ((4 : Int32) &&& 31).toUInt32).toInt32))]))
            refine own_st (fun _ k => XS.iushr X0.here hx rfl (hb hby d6_72) rfl k) ?_
            show own_Go _ _ _ _ (s₁.setTop (mkF m 73 #[.val (.int ((((((u0 ^^^ (-1 : Int32)) &&& (u0 - (1 : Int32))).toUInt32 >>> ((8 : Int32) &&& 31).toUInt32).toInt32).toUInt32 >>> ((4 : Int32) &&& 31).toUInt32).toInt32)), .val (.int (15 : Int32))] [(.int ((((((((u0 ^^^ (-1 : Int32)) &&& (u0 - (1 : Int32))).toUInt32 >>> ((8 : Int32) &&& 31).toUInt32).toInt32).toUInt32 >>> ((4 : Int32) &&& 31).toUInt32).toInt32).toUInt32 >>> ((2 : Int32) &&& 31).toUInt32).toInt32))]))
            refine own_st (fun _ k => XS.istoreN X0.here hx rfl (hb hby d6_73) rfl (l' := #[.val (.int ((((((((u0 ^^^ (-1 : Int32)) &&& (u0 - (1 : Int32))).toUInt32 >>> ((8 : Int32) &&& 31).toUInt32).toInt32).toUInt32 >>> ((4 : Int32) &&& 31).toUInt32).toInt32).toUInt32 >>> ((2 : Int32) &&& 31).toUInt32).toInt32)), .val (.int (15 : Int32))]) rfl k) ?_
            show own_Go _ _ _ _ (s₁.setTop (mkF m 74 #[.val (.int ((((((((u0 ^^^ (-1 : Int32)) &&& (u0 - (1 : Int32))).toUInt32 >>> ((8 : Int32) &&& 31).toUInt32).toInt32).toUInt32 >>> ((4 : Int32) &&& 31).toUInt32).toInt32).toUInt32 >>> ((2 : Int32) &&& 31).toUInt32).toInt32)), .val (.int (15 : Int32))] []))
            refine own_st (fun _ k => XS.iloadN X0.here hx rfl (hb hby d6_74) rfl k) ?_
            show own_Go _ _ _ _ (s₁.setTop (mkF m 75 #[.val (.int ((((((((u0 ^^^ (-1 : Int32)) &&& (u0 - (1 : Int32))).toUInt32 >>> ((8 : Int32) &&& 31).toUInt32).toInt32).toUInt32 >>> ((4 : Int32) &&& 31).toUInt32).toInt32).toUInt32 >>> ((2 : Int32) &&& 31).toUInt32).toInt32)), .val (.int (15 : Int32))] [(.int (15 : Int32))]))
            refine own_st (fun _ k => XS.iloadN X0.here hx rfl (hb hby d6_75) rfl k) ?_
            show own_Go _ _ _ _ (s₁.setTop (mkF m 76 #[.val (.int ((((((((u0 ^^^ (-1 : Int32)) &&& (u0 - (1 : Int32))).toUInt32 >>> ((8 : Int32) &&& 31).toUInt32).toInt32).toUInt32 >>> ((4 : Int32) &&& 31).toUInt32).toInt32).toUInt32 >>> ((2 : Int32) &&& 31).toUInt32).toInt32)), .val (.int (15 : Int32))] [(.int ((((((((u0 ^^^ (-1 : Int32)) &&& (u0 - (1 : Int32))).toUInt32 >>> ((8 : Int32) &&& 31).toUInt32).toInt32).toUInt32 >>> ((4 : Int32) &&& 31).toUInt32).toInt32).toUInt32 >>> ((2 : Int32) &&& 31).toUInt32).toInt32)), (.int (15 : Int32))]))
            refine own_st (fun _ k => XS.iconst X0.here hx rfl (hb hby d6_76) k) ?_
            show own_Go _ _ _ _ (s₁.setTop (mkF m 77 #[.val (.int ((((((((u0 ^^^ (-1 : Int32)) &&& (u0 - (1 : Int32))).toUInt32 >>> ((8 : Int32) &&& 31).toUInt32).toInt32).toUInt32 >>> ((4 : Int32) &&& 31).toUInt32).toInt32).toUInt32 >>> ((2 : Int32) &&& 31).toUInt32).toInt32)), .val (.int (15 : Int32))] [(.int (1 : Int32)), (.int ((((((((u0 ^^^ (-1 : Int32)) &&& (u0 - (1 : Int32))).toUInt32 >>> ((8 : Int32) &&& 31).toUInt32).toInt32).toUInt32 >>> ((4 : Int32) &&& 31).toUInt32).toInt32).toUInt32 >>> ((2 : Int32) &&& 31).toUInt32).toInt32)), (.int (15 : Int32))]))
            refine own_st (fun _ k => XS.iushr X0.here hx rfl (hb hby d6_77) rfl k) ?_
            show own_Go _ _ _ _ (s₁.setTop (mkF m 78 #[.val (.int ((((((((u0 ^^^ (-1 : Int32)) &&& (u0 - (1 : Int32))).toUInt32 >>> ((8 : Int32) &&& 31).toUInt32).toInt32).toUInt32 >>> ((4 : Int32) &&& 31).toUInt32).toInt32).toUInt32 >>> ((2 : Int32) &&& 31).toUInt32).toInt32)), .val (.int (15 : Int32))] [(.int ((((((((((u0 ^^^ (-1 : Int32)) &&& (u0 - (1 : Int32))).toUInt32 >>> ((8 : Int32) &&& 31).toUInt32).toInt32).toUInt32 >>> ((4 : Int32) &&& 31).toUInt32).toInt32).toUInt32 >>> ((2 : Int32) &&& 31).toUInt32).toInt32).toUInt32 >>> ((1 : Int32) &&& 31).toUInt32).toInt32)), (.int (15 : Int32))]))
            refine own_st (fun _ k => XS.iadd X0.here hx rfl (hb hby d6_78) rfl k) ?_
            show own_Go _ _ _ _ (s₁.setTop (mkF m 79 #[.val (.int ((((((((u0 ^^^ (-1 : Int32)) &&& (u0 - (1 : Int32))).toUInt32 >>> ((8 : Int32) &&& 31).toUInt32).toInt32).toUInt32 >>> ((4 : Int32) &&& 31).toUInt32).toInt32).toUInt32 >>> ((2 : Int32) &&& 31).toUInt32).toInt32)), .val (.int (15 : Int32))] [(.int ((15 : Int32) + ((((((((((u0 ^^^ (-1 : Int32)) &&& (u0 - (1 : Int32))).toUInt32 >>> ((8 : Int32) &&& 31).toUInt32).toInt32).toUInt32 >>> ((4 : Int32) &&& 31).toUInt32).toInt32).toUInt32 >>> ((2 : Int32) &&& 31).toUInt32).toInt32).toUInt32 >>> ((1 : Int32) &&& 31).toUInt32).toInt32)))]))
            obtain ⟨fs, hr, hrun, hended, hW, hsame⟩ := X0.leave (v := some (.int ((15 : Int32) + ((((((((((u0 ^^^ (-1 : Int32)) &&& (u0 - (1 : Int32))).toUInt32 >>> ((8 : Int32) &&& 31).toUInt32).toInt32).toUInt32 >>> ((4 : Int32) &&& 31).toUInt32).toInt32).toUInt32 >>> ((2 : Int32) &&& 31).toUInt32).toInt32).toUInt32 >>> ((1 : Int32) &&& 31).toUInt32).toInt32)))) (fun h => by rw [Bd.returns] at h; cases h)
            refine own_out (own_retI X0 hx Bd.returns (hb hby d6_79) hr) ⟨hrun, hended, _, _, rfl, ?_, ⟨_, rfl⟩, hW, hsame.mono (by decide) (by decide)⟩
            show Q6 Z u0 h0 n0 _ s₁.heap _
            have hv : own_ntz u0 = ((15 : Int32) + ((((((((((u0 ^^^ (-1 : Int32)) &&& (u0 - (1 : Int32))).toUInt32 >>> ((8 : Int32) &&& 31).toUInt32).toInt32).toUInt32 >>> ((4 : Int32) &&& 31).toUInt32).toInt32).toUInt32 >>> ((2 : Int32) &&& 31).toUInt32).toInt32).toUInt32 >>> ((1 : Int32) &&& 31).toUInt32).toInt32)) := by
              unfold own_ntz
              rw [if_pos hc1, if_neg hc2, if_pos hc10, if_pos hc11, if_pos hc12]
            exact ⟨by rw [hv], N0, e0⟩
          · skip
            refine own_st (fun _ k => XS.icmpYes X0.here hx rfl (pc0 := 64) (pc' := 74) rfl (hb hby d6_64) rfl (flt hc12).2.2.2 (by decide) (by decide) k) ?_
            show own_Go _ _ _ _ (s₁.setTop (mkF m 74 #[.val (.int ((((((u0 ^^^ (-1 : Int32)) &&& (u0 - (1 : Int32))).toUInt32 >>> ((8 : Int32) &&& 31).toUInt32).toInt32).toUInt32 >>> ((4 : Int32) &&& 31).toUInt32).toInt32)), .val (.int (13 : Int32))] []))
            refine own_st (fun _ k => XS.iloadN X0.here hx rfl (hb hby d6_74) rfl k) ?_
            show own_Go _ _ _ _ (s₁.setTop (mkF m 75 #[.val (.int ((((((u0 ^^^ (-1 : Int32)) &&& (u0 - (1 : Int32))).toUInt32 >>> ((8 : Int32) &&& 31).toUInt32).toInt32).toUInt32 >>> ((4 : Int32) &&& 31).toUInt32).toInt32)), .val (.int (13 : Int32))] [(.int (13 : Int32))]))
            refine own_st (fun _ k => XS.iloadN X0.here hx rfl (hb hby d6_75) rfl k) ?_
            show own_Go _ _ _ _ (s₁.setTop (mkF m 76 #[.val (.int ((((((u0 ^^^ (-1 : Int32)) &&& (u0 - (1 : Int32))).toUInt32 >>> ((8 : Int32) &&& 31).toUInt32).toInt32).toUInt32 >>> ((4 : Int32) &&& 31).toUInt32).toInt32)), .val (.int (13 : Int32))] [(.int ((((((u0 ^^^ (-1 : Int32)) &&& (u0 - (1 : Int32))).toUInt32 >>> ((8 : Int32) &&& 31).toUInt32).toInt32).toUInt32 >>> ((4 : Int32) &&& 31).toUInt32).toInt32)), (.int (13 : Int32))]))
            refine own_st (fun _ k => XS.iconst X0.here hx rfl (hb hby d6_76) k) ?_
            show own_Go _ _ _ _ (s₁.setTop (mkF m 77 #[.val (.int ((((((u0 ^^^ (-1 : Int32)) &&& (u0 - (1 : Int32))).toUInt32 >>> ((8 : Int32) &&& 31).toUInt32).toInt32).toUInt32 >>> ((4 : Int32) &&& 31).toUInt32).toInt32)), .val (.int (13 : Int32))] [(.int (1 : Int32)), (.int ((((((u0 ^^^ (-1 : Int32)) &&& (u0 - (1 : Int32))).toUInt32 >>> ((8 : Int32) &&& 31).toUInt32).toInt32).toUInt32 >>> ((4 : Int32) &&& 31).toUInt32).toInt32)), (.int (13 : Int32))]))
            refine own_st (fun _ k => XS.iushr X0.here hx rfl (hb hby d6_77) rfl k) ?_
            show own_Go _ _ _ _ (s₁.setTop (mkF m 78 #[.val (.int ((((((u0 ^^^ (-1 : Int32)) &&& (u0 - (1 : Int32))).toUInt32 >>> ((8 : Int32) &&& 31).toUInt32).toInt32).toUInt32 >>> ((4 : Int32) &&& 31).toUInt32).toInt32)), .val (.int (13 : Int32))] [(.int ((((((((u0 ^^^ (-1 : Int32)) &&& (u0 - (1 : Int32))).toUInt32 >>> ((8 : Int32) &&& 31).toUInt32).toInt32).toUInt32 >>> ((4 : Int32) &&& 31).toUInt32).toInt32).toUInt32 >>> ((1 : Int32) &&& 31).toUInt32).toInt32)), (.int (13 : Int32))]))
            refine own_st (fun _ k => XS.iadd X0.here hx rfl (hb hby d6_78) rfl k) ?_
            show own_Go _ _ _ _ (s₁.setTop (mkF m 79 #[.val (.int ((((((u0 ^^^ (-1 : Int32)) &&& (u0 - (1 : Int32))).toUInt32 >>> ((8 : Int32) &&& 31).toUInt32).toInt32).toUInt32 >>> ((4 : Int32) &&& 31).toUInt32).toInt32)), .val (.int (13 : Int32))] [(.int ((13 : Int32) + ((((((((u0 ^^^ (-1 : Int32)) &&& (u0 - (1 : Int32))).toUInt32 >>> ((8 : Int32) &&& 31).toUInt32).toInt32).toUInt32 >>> ((4 : Int32) &&& 31).toUInt32).toInt32).toUInt32 >>> ((1 : Int32) &&& 31).toUInt32).toInt32)))]))
            obtain ⟨fs, hr, hrun, hended, hW, hsame⟩ := X0.leave (v := some (.int ((13 : Int32) + ((((((((u0 ^^^ (-1 : Int32)) &&& (u0 - (1 : Int32))).toUInt32 >>> ((8 : Int32) &&& 31).toUInt32).toInt32).toUInt32 >>> ((4 : Int32) &&& 31).toUInt32).toInt32).toUInt32 >>> ((1 : Int32) &&& 31).toUInt32).toInt32)))) (fun h => by rw [Bd.returns] at h; cases h)
            refine own_out (own_retI X0 hx Bd.returns (hb hby d6_79) hr) ⟨hrun, hended, _, _, rfl, ?_, ⟨_, rfl⟩, hW, hsame.mono (by decide) (by decide)⟩
            show Q6 Z u0 h0 n0 _ s₁.heap _
            have hv : own_ntz u0 = ((13 : Int32) + ((((((((u0 ^^^ (-1 : Int32)) &&& (u0 - (1 : Int32))).toUInt32 >>> ((8 : Int32) &&& 31).toUInt32).toInt32).toUInt32 >>> ((4 : Int32) &&& 31).toUInt32).toInt32).toUInt32 >>> ((1 : Int32) &&& 31).toUInt32).toInt32)) := by
              unfold own_ntz
              rw [if_pos hc1, if_neg hc2, if_pos hc10, if_pos hc11, if_neg hc12]
            exact ⟨by rw [hv], N0, e0⟩
        · skip
          refine own_st (fun _ k => XS.icmpYes X0.here hx rfl (pc0 := 52) (pc' := 62) rfl (hb hby d6_52) rfl (flt hc11).2.2.2 (by decide) (by decide) k) ?_
          show own_Go _ _ _ _ (s₁.setTop (mkF m 62 #[.val (.int ((((u0 ^^^ (-1 : Int32)) &&& (u0 - (1 : Int32))).toUInt32 >>> ((8 : Int32) &&& 31).toUInt32).toInt32)), .val (.int (9 : Int32))] []))
          refine own_st (fun _ k => XS.iloadN X0.here hx rfl (hb hby d6_62) rfl k) ?_
          show own_Go _ _ _ _ (s₁.setTop (mkF m 63 #[.val (.int ((((u0 ^^^ (-1 : Int32)) &&& (u0 - (1 : Int32))).toUInt32 >>> ((8 : Int32) &&& 31).toUInt32).toInt32)), .val (.int (9 : Int32))] [(.int ((((u0 ^^^ (-1 : Int32)) &&& (u0 - (1 : Int32))).toUInt32 >>> ((8 : Int32) &&& 31).toUInt32).toInt32))]))
          refine own_st (fun _ k => XS.iconst X0.here hx rfl (hb hby d6_63) k) ?_
          show own_Go _ _ _ _ (s₁.setTop (mkF m 64 #[.val (.int ((((u0 ^^^ (-1 : Int32)) &&& (u0 - (1 : Int32))).toUInt32 >>> ((8 : Int32) &&& 31).toUInt32).toInt32)), .val (.int (9 : Int32))] [(.int (4 : Int32)), (.int ((((u0 ^^^ (-1 : Int32)) &&& (u0 - (1 : Int32))).toUInt32 >>> ((8 : Int32) &&& 31).toUInt32).toInt32))]))
          by_cases hc13 : (4 : Int32) < ((((u0 ^^^ (-1 : Int32)) &&& (u0 - (1 : Int32))).toUInt32 >>> ((8 : Int32) &&& 31).toUInt32).toInt32)
          · skip
            refine own_st (fun _ k => XS.icmpNo X0.here hx rfl (hb hby d6_64) rfl (tlt hc13).2.2.2 k) ?_
            show own_Go _ _ _ _ (s₁.setTop (mkF m 67 #[.val (.int ((((u0 ^^^ (-1 : Int32)) &&& (u0 - (1 : Int32))).toUInt32 >>> ((8 : Int32) &&& 31).toUInt32).toInt32)), .val (.int (9 : Int32))] []))
            refine own_st (fun _ k => XS.iinc X0.here hx rfl (hb hby d6_67) rfl (l' := #[.val (.int ((((u0 ^^^ (-1 : Int32)) &&& (u0 - (1 : Int32))).toUInt32 >>> ((8 : Int32) &&& 31).toUInt32).toInt32)), .val (.int (11 : Int32))]) rfl k) ?_
            show own_Go _ _ _ _ (s₁.setTop (mkF m 70 #[.val (.int ((((u0 ^^^ (-1 : Int32)) &&& (u0 - (1 : Int32))).toUInt32 >>> ((8 : Int32) &&& 31).toUInt32).toInt32)), .val (.int (11 : Int32))] []))
            refine own_st (fun _ k => XS.iloadN X0.here hx rfl (hb hby d6_70) rfl k) ?_
            show own_Go _ _ _ _ (s₁.setTop (mkF m 71 #[.val (.int ((((u0 ^^^ (-1 : Int32)) &&& (u0 - (1 : Int32))).toUInt32 >>> ((8 : Int32) &&& 31).toUInt32).toInt32)), .val (.int (11 : Int32))] [(.int ((((u0 ^^^ (-1 : Int32)) &&& (u0 - (1 : Int32))).toUInt32 >>> ((8 : Int32) &&& 31).toUInt32).toInt32))]))
            refine own_st (fun _ k => XS.iconst X0.here hx rfl (hb hby d6_71) k) ?_
            show own_Go _ _ _ _ (s₁.setTop (mkF m 72 #[.val (.int ((((u0 ^^^ (-1 : Int32)) &&& (u0 - (1 : Int32))).toUInt32 >>> ((8 : Int32) &&& 31).toUInt32).toInt32)), .val (.int (11 : Int32))] [(.int (2 : Int32)), (.int ((((u0 ^^^ (-1 : Int32)) &&& (u0 - (1 : Int32))).toUInt32 >>> ((8 : Int32) &&& 31).toUInt32).toInt32))]))
            refine own_st (fun _ k => XS.iushr X0.here hx rfl (hb hby d6_72) rfl k) ?_
            show own_Go _ _ _ _ (s₁.setTop (mkF m 73 #[.val (.int ((((u0 ^^^ (-1 : Int32)) &&& (u0 - (1 : Int32))).toUInt32 >>> ((8 : Int32) &&& 31).toUInt32).toInt32)), .val (.int (11 : Int32))] [(.int ((((((u0 ^^^ (-1 : Int32)) &&& (u0 - (1 : Int32))).toUInt32 >>> ((8 : Int32) &&& 31).toUInt32).toInt32).toUInt32 >>> ((2 : Int32) &&& 31).toUInt32).toInt32))]))
            refine own_st (fun _ k => XS.istoreN X0.here hx rfl (hb hby d6_73) rfl (l' := #[.val (.int ((((((u0 ^^^ (-1 : Int32)) &&& (u0 - (1 : Int32))).toUInt32 >>> ((8 : Int32) &&& 31).toUInt32).toInt32).toUInt32 >>> ((2 : Int32) &&& 31).toUInt32).toInt32)), .val (.int (11 : Int32))]) rfl k) ?_
            show own_Go _ _ _ _ (s₁.setTop (mkF m 74 #[.val (.int ((((((u0 ^^^ (-1 : Int32)) &&& (u0 - (1 : Int32))).toUInt32 >>> ((8 : Int32) &&& 31).toUInt32).toInt32).toUInt32 >>> ((2 : Int32) &&& 31).toUInt32).toInt32)), .val (.int (11 : Int32))] []))
            refine own_st (fun _ k => XS.iloadN X0.here hx rfl (hb hby d6_74) rfl k) ?_
            show own_Go _ _ _ _ (s₁.setTop (mkF m 75 #[.val (.int ((((((u0 ^^^ (-1 : Int32)) &&& (u0 - (1 : Int32))).toUInt32 >>> ((8 : Int32) &&& 31).toUInt32).toInt32).toUInt32 >>> ((2 : Int32) &&& 31).toUInt32).toInt32)), .val (.int (11 : Int32))] [(.int (11 : Int32))]))
            refine own_st (fun _ k => XS.iloadN X0.here hx rfl (hb hby d6_75) rfl k) ?_
            show own_Go _ _ _ _ (s₁.setTop (mkF m 76 #[.val (.int ((((((u0 ^^^ (-1 : Int32)) &&& (u0 - (1 : Int32))).toUInt32 >>> ((8 : Int32) &&& 31).toUInt32).toInt32).toUInt32 >>> ((2 : Int32) &&& 31).toUInt32).toInt32)), .val (.int (11 : Int32))] [(.int ((((((u0 ^^^ (-1 : Int32)) &&& (u0 - (1 : Int32))).toUInt32 >>> ((8 : Int32) &&& 31).toUInt32).toInt32).toUInt32 >>> ((2 : Int32) &&& 31).toUInt32).toInt32)), (.int (11 : Int32))]))
            refine own_st (fun _ k => XS.iconst X0.here hx rfl (hb hby d6_76) k) ?_
            show own_Go _ _ _ _ (s₁.setTop (mkF m 77 #[.val (.int ((((((u0 ^^^ (-1 : Int32)) &&& (u0 - (1 : Int32))).toUInt32 >>> ((8 : Int32) &&& 31).toUInt32).toInt32).toUInt32 >>> ((2 : Int32) &&& 31).toUInt32).toInt32)), .val (.int (11 : Int32))] [(.int (1 : Int32)), (.int ((((((u0 ^^^ (-1 : Int32)) &&& (u0 - (1 : Int32))).toUInt32 >>> ((8 : Int32) &&& 31).toUInt32).toInt32).toUInt32 >>> ((2 : Int32) &&& 31).toUInt32).toInt32)), (.int (11 : Int32))]))
            refine own_st (fun _ k => XS.iushr X0.here hx rfl (hb hby d6_77) rfl k) ?_
            show own_Go _ _ _ _ (s₁.setTop (mkF m 78 #[.val (.int ((((((u0 ^^^ (-1 : Int32)) &&& (u0 - (1 : Int32))).toUInt32 >>> ((8 : Int32) &&& 31).toUInt32).toInt32).toUInt32 >>> ((2 : Int32) &&& 31).toUInt32).toInt32)), .val (.int (11 : Int32))] [(.int ((((((((u0 ^^^ (-1 : Int32)) &&& (u0 - (1 : Int32))).toUInt32 >>> ((8 : Int32) &&& 31).toUInt32).toInt32).toUInt32 >>> ((2 : Int32) &&& 31).toUInt32).toInt32).toUInt32 >>> ((1 : Int32) &&& 31).toUInt32).toInt32)), (.int (11 : Int32))]))
            refine own_st (fun _ k => XS.iadd X0.here hx rfl (hb hby d6_78) rfl k) ?_
            show own_Go _ _ _ _ (s₁.setTop (mkF m 79 #[.val (.int ((((((u0 ^^^ (-1 : Int32)) &&& (u0 - (1 : Int32))).toUInt32 >>> ((8 : Int32) &&& 31).toUInt32).toInt32).toUInt32 >>> ((2 : Int32) &&& 31).toUInt32).toInt32)), .val (.int (11 : Int32))] [(.int ((11 : Int32) + ((((((((u0 ^^^ (-1 : Int32)) &&& (u0 - (1 : Int32))).toUInt32 >>> ((8 : Int32) &&& 31).toUInt32).toInt32).toUInt32 >>> ((2 : Int32) &&& 31).toUInt32).toInt32).toUInt32 >>> ((1 : Int32) &&& 31).toUInt32).toInt32)))]))
            obtain ⟨fs, hr, hrun, hended, hW, hsame⟩ := X0.leave (v := some (.int ((11 : Int32) + ((((((((u0 ^^^ (-1 : Int32)) &&& (u0 - (1 : Int32))).toUInt32 >>> ((8 : Int32) &&& 31).toUInt32).toInt32).toUInt32 >>> ((2 : Int32) &&& 31).toUInt32).toInt32).toUInt32 >>> ((1 : Int32) &&& 31).toUInt32).toInt32)))) (fun h => by rw [Bd.returns] at h; cases h)
            refine own_out (own_retI X0 hx Bd.returns (hb hby d6_79) hr) ⟨hrun, hended, _, _, rfl, ?_, ⟨_, rfl⟩, hW, hsame.mono (by decide) (by decide)⟩
            show Q6 Z u0 h0 n0 _ s₁.heap _
            have hv : own_ntz u0 = ((11 : Int32) + ((((((((u0 ^^^ (-1 : Int32)) &&& (u0 - (1 : Int32))).toUInt32 >>> ((8 : Int32) &&& 31).toUInt32).toInt32).toUInt32 >>> ((2 : Int32) &&& 31).toUInt32).toInt32).toUInt32 >>> ((1 : Int32) &&& 31).toUInt32).toInt32)) := by
              unfold own_ntz
              rw [if_pos hc1, if_neg hc2, if_pos hc10, if_neg hc11, if_pos hc13]
            exact ⟨by rw [hv], N0, e0⟩
          · skip
            refine own_st (fun _ k => XS.icmpYes X0.here hx rfl (pc0 := 64) (pc' := 74) rfl (hb hby d6_64) rfl (flt hc13).2.2.2 (by decide) (by decide) k) ?_
            show own_Go _ _ _ _ (s₁.setTop (mkF m 74 #[.val (.int ((((u0 ^^^ (-1 : Int32)) &&& (u0 - (1 : Int32))).toUInt32 >>> ((8 : Int32) &&& 31).toUInt32).toInt32)), .val (.int (9 : Int32))] []))
            refine own_st (fun _ k => XS.iloadN X0.here hx rfl (hb hby d6_74) rfl k) ?_
            show own_Go _ _ _ _ (s₁.setTop (mkF m 75 #[.val (.int ((((u0 ^^^ (-1 : Int32)) &&& (u0 - (1 : Int32))).toUInt32 >>> ((8 : Int32) &&& 31).toUInt32).toInt32)), .val (.int (9 : Int32))] [(.int (9 : Int32))]))
            refine own_st (fun _ k => XS.iloadN X0.here hx rfl (hb hby d6_75) rfl k) ?_
            show own_Go _ _ _ _ (s₁.setTop (mkF m 76 #[.val (.int ((((u0 ^^^ (-1 : Int32)) &&& (u0 - (1 : Int32))).toUInt32 >>> ((8 : Int32) &&& 31).toUInt32).toInt32)), .val (.int (9 : Int32))] [(.int ((((u0 ^^^ (-1 : Int32)) &&& (u0 - (1 : Int32))).toUInt32 >>> ((8 : Int32) &&& 31).toUInt32).toInt32)), (.int (9 : Int32))]))
            refine own_st (fun _ k => XS.iconst X0.here hx rfl (hb hby d6_76) k) ?_
            show own_Go _ _ _ _ (s₁.setTop (mkF m 77 #[.val (.int ((((u0 ^^^ (-1 : Int32)) &&& (u0 - (1 : Int32))).toUInt32 >>> ((8 : Int32) &&& 31).toUInt32).toInt32)), .val (.int (9 : Int32))] [(.int (1 : Int32)), (.int ((((u0 ^^^ (-1 : Int32)) &&& (u0 - (1 : Int32))).toUInt32 >>> ((8 : Int32) &&& 31).toUInt32).toInt32)), (.int (9 : Int32))]))
            refine own_st (fun _ k => XS.iushr X0.here hx rfl (hb hby d6_77) rfl k) ?_
            show own_Go _ _ _ _ (s₁.setTop (mkF m 78 #[.val (.int ((((u0 ^^^ (-1 : Int32)) &&& (u0 - (1 : Int32))).toUInt32 >>> ((8 : Int32) &&& 31).toUInt32).toInt32)), .val (.int (9 : Int32))] [(.int ((((((u0 ^^^ (-1 : Int32)) &&& (u0 - (1 : Int32))).toUInt32 >>> ((8 : Int32) &&& 31).toUInt32).toInt32).toUInt32 >>> ((1 : Int32) &&& 31).toUInt32).toInt32)), (.int (9 : Int32))]))
            refine own_st (fun _ k => XS.iadd X0.here hx rfl (hb hby d6_78) rfl k) ?_
            show own_Go _ _ _ _ (s₁.setTop (mkF m 79 #[.val (.int ((((u0 ^^^ (-1 : Int32)) &&& (u0 - (1 : Int32))).toUInt32 >>> ((8 : Int32) &&& 31).toUInt32).toInt32)), .val (.int (9 : Int32))] [(.int ((9 : Int32) + ((((((u0 ^^^ (-1 : Int32)) &&& (u0 - (1 : Int32))).toUInt32 >>> ((8 : Int32) &&& 31).toUInt32).toInt32).toUInt32 >>> ((1 : Int32) &&& 31).toUInt32).toInt32)))]))
            obtain ⟨fs, hr, hrun, hended, hW, hsame⟩ := X0.leave (v := some (.int ((9 : Int32) + ((((((u0 ^^^ (-1 : Int32)) &&& (u0 - (1 : Int32))).toUInt32 >>> ((8 : Int32) &&& 31).toUInt32).toInt32).toUInt32 >>> ((1 : Int32) &&& 31).toUInt32).toInt32)))) (fun h => by rw [Bd.returns] at h; cases h)
            refine own_out (own_retI X0 hx Bd.returns (hb hby d6_79) hr) ⟨hrun, hended, _, _, rfl, ?_, ⟨_, rfl⟩, hW, hsame.mono (by decide) (by decide)⟩
            show Q6 Z u0 h0 n0 _ s₁.heap _
            have hv : own_ntz u0 = ((9 : Int32) + ((((((u0 ^^^ (-1 : Int32)) &&& (u0 - (1 : Int32))).toUInt32 >>> ((8 : Int32) &&& 31).toUInt32).toInt32).toUInt32 >>> ((1 : Int32) &&& 31).toUInt32).toInt32)) := by
              unfold own_ntz
              rw [if_pos hc1, if_neg hc2, if_pos hc10, if_neg hc11, if_neg hc13]
            exact ⟨by rw [hv], N0, e0⟩
      · skip
        refine own_st (fun _ k => XS.icmpYes X0.here hx rfl (pc0 := 38) (pc' := 49) rfl (hb hby d6_38) rfl (flt hc10).2.2.2 (by decide) (by decide) k) ?_
        show own_Go _ _ _ _ (s₁.setTop (mkF m 49 #[.val (.int ((u0 ^^^ (-1 : Int32)) &&& (u0 - (1 : Int32)))), .val (.int (1 : Int32))] []))
        refine own_st (fun _ k => XS.iloadN X0.here hx rfl (hb hby d6_49) rfl k) ?_
        show own_Go _ _ _ _ (s₁.setTop (mkF m 50 #[.val (.int ((u0 ^^^ (-1 : Int32)) &&& (u0 - (1 : Int32)))), .val (.int (1 : Int32))] [(.int ((u0 ^^^ (-1 : Int32)) &&& (u0 - (1 : Int32))))]))
        refine own_st (fun _ k => XS.bipush X0.here hx rfl (hb hby d6_50) k) ?_
        show own_Go _ _ _ _ (s₁.setTop (mkF m 52 #[.val (.int ((u0 ^^^ (-1 : Int32)) &&& (u0 - (1 : Int32)))), .val (.int (1 : Int32))] [(.int (16 : Int32)), (.int ((u0 ^^^ (-1 : Int32)) &&& (u0 - (1 : Int32))))]))
        by_cases hc14 : (16 : Int32) < ((u0 ^^^ (-1 : Int32)) &&& (u0 - (1 : Int32)))
        · skip
          refine own_st (fun _ k => XS.icmpNo X0.here hx rfl (hb hby d6_52) rfl (tlt hc14).2.2.2 k) ?_
          show own_Go _ _ _ _ (s₁.setTop (mkF m 55 #[.val (.int ((u0 ^^^ (-1 : Int32)) &&& (u0 - (1 : Int32)))), .val (.int (1 : Int32))] []))
          refine own_st (fun _ k => XS.iinc X0.here hx rfl (hb hby d6_55) rfl (l' := #[.val (.int ((u0 ^^^ (-1 : Int32)) &&& (u0 - (1 : Int32)))), .val (.int (5 : Int32))]) rfl k) ?_
          show own_Go _ _ _ _ (s₁.setTop (mkF m 58 #[.val (.int ((u0 ^^^ (-1 : Int32)) &&& (u0 - (1 : Int32)))), .val (.int (5 : Int32))] []))
          refine own_st (fun _ k => XS.iloadN X0.here hx rfl (hb hby d6_58) rfl k) ?_
          show own_Go _ _ _ _ (s₁.setTop (mkF m 59 #[.val (.int ((u0 ^^^ (-1 : Int32)) &&& (u0 - (1 : Int32)))), .val (.int (5 : Int32))] [(.int ((u0 ^^^ (-1 : Int32)) &&& (u0 - (1 : Int32))))]))
          refine own_st (fun _ k => XS.iconst X0.here hx rfl (hb hby d6_59) k) ?_
          show own_Go _ _ _ _ (s₁.setTop (mkF m 60 #[.val (.int ((u0 ^^^ (-1 : Int32)) &&& (u0 - (1 : Int32)))), .val (.int (5 : Int32))] [(.int (4 : Int32)), (.int ((u0 ^^^ (-1 : Int32)) &&& (u0 - (1 : Int32))))]))
          refine own_st (fun _ k => XS.iushr X0.here hx rfl (hb hby d6_60) rfl k) ?_
          show own_Go _ _ _ _ (s₁.setTop (mkF m 61 #[.val (.int ((u0 ^^^ (-1 : Int32)) &&& (u0 - (1 : Int32)))), .val (.int (5 : Int32))] [(.int ((((u0 ^^^ (-1 : Int32)) &&& (u0 - (1 : Int32))).toUInt32 >>> ((4 : Int32) &&& 31).toUInt32).toInt32))]))
          refine own_st (fun _ k => XS.istoreN X0.here hx rfl (hb hby d6_61) rfl (l' := #[.val (.int ((((u0 ^^^ (-1 : Int32)) &&& (u0 - (1 : Int32))).toUInt32 >>> ((4 : Int32) &&& 31).toUInt32).toInt32)), .val (.int (5 : Int32))]) rfl k) ?_
          show own_Go _ _ _ _ (s₁.setTop (mkF m 62 #[.val (.int ((((u0 ^^^ (-1 : Int32)) &&& (u0 - (1 : Int32))).toUInt32 >>> ((4 : Int32) &&& 31).toUInt32).toInt32)), .val (.int (5 : Int32))] []))
          refine own_st (fun _ k => XS.iloadN X0.here hx rfl (hb hby d6_62) rfl k) ?_
          show own_Go _ _ _ _ (s₁.setTop (mkF m 63 #[.val (.int ((((u0 ^^^ (-1 : Int32)) &&& (u0 - (1 : Int32))).toUInt32 >>> ((4 : Int32) &&& 31).toUInt32).toInt32)), .val (.int (5 : Int32))] [(.int ((((u0 ^^^ (-1 : Int32)) &&& (u0 - (1 : Int32))).toUInt32 >>> ((4 : Int32) &&& 31).toUInt32).toInt32))]))
          refine own_st (fun _ k => XS.iconst X0.here hx rfl (hb hby d6_63) k) ?_
          show own_Go _ _ _ _ (s₁.setTop (mkF m 64 #[.val (.int ((((u0 ^^^ (-1 : Int32)) &&& (u0 - (1 : Int32))).toUInt32 >>> ((4 : Int32) &&& 31).toUInt32).toInt32)), .val (.int (5 : Int32))] [(.int (4 : Int32)), (.int ((((u0 ^^^ (-1 : Int32)) &&& (u0 - (1 : Int32))).toUInt32 >>> ((4 : Int32) &&& 31).toUInt32).toInt32))]))
          by_cases hc15 : (4 : Int32) < ((((u0 ^^^ (-1 : Int32)) &&& (u0 - (1 : Int32))).toUInt32 >>> ((4 : Int32) &&& 31).toUInt32).toInt32)
          · skip
            refine own_st (fun _ k => XS.icmpNo X0.here hx rfl (hb hby d6_64) rfl (tlt hc15).2.2.2 k) ?_
            show own_Go _ _ _ _ (s₁.setTop (mkF m 67 #[.val (.int ((((u0 ^^^ (-1 : Int32)) &&& (u0 - (1 : Int32))).toUInt32 >>> ((4 : Int32) &&& 31).toUInt32).toInt32)), .val (.int (5 : Int32))] []))
            refine own_st (fun _ k => XS.iinc X0.here hx rfl (hb hby d6_67) rfl (l' := #[.val (.int ((((u0 ^^^ (-1 : Int32)) &&& (u0 - (1 : Int32))).toUInt32 >>> ((4 : Int32) &&& 31).toUInt32).toInt32)), .val (.int (7 : Int32))]) rfl k) ?_
            show own_Go _ _ _ _ (s₁.setTop (mkF m 70 #[.val (.int ((((u0 ^^^ (-1 : Int32)) &&& (u0 - (1 : Int32))).toUInt32 >>> ((4 : Int32) &&& 31).toUInt32).toInt32)), .val (.int (7 : Int32))] []))
            refine own_st (fun _ k => XS.iloadN X0.here hx rfl (hb hby d6_70) rfl k) ?_
            show own_Go _ _ _ _ (s₁.setTop (mkF m 71 #[.val (.int ((((u0 ^^^ (-1 : Int32)) &&& (u0 - (1 : Int32))).toUInt32 >>> ((4 : Int32) &&& 31).toUInt32).toInt32)), .val (.int (7 : Int32))] [(.int ((((u0 ^^^ (-1 : Int32)) &&& (u0 - (1 : Int32))).toUInt32 >>> ((4 : Int32) &&& 31).toUInt32).toInt32))]))
            refine own_st (fun _ k => XS.iconst X0.here hx rfl (hb hby d6_71) k) ?_
            show own_Go _ _ _ _ (s₁.setTop (mkF m 72 #[.val (.int ((((u0 ^^^ (-1 : Int32)) &&& (u0 - (1 : Int32))).toUInt32 >>> ((4 : Int32) &&& 31).toUInt32).toInt32)), .val (.int (7 : Int32))] [(.int (2 : Int32)), (.int ((((u0 ^^^ (-1 : Int32)) &&& (u0 - (1 : Int32))).toUInt32 >>> ((4 : Int32) &&& 31).toUInt32).toInt32))]))
            refine own_st (fun _ k => XS.iushr X0.here hx rfl (hb hby d6_72) rfl k) ?_
            show own_Go _ _ _ _ (s₁.setTop (mkF m 73 #[.val (.int ((((u0 ^^^ (-1 : Int32)) &&& (u0 - (1 : Int32))).toUInt32 >>> ((4 : Int32) &&& 31).toUInt32).toInt32)), .val (.int (7 : Int32))] [(.int ((((((u0 ^^^ (-1 : Int32)) &&& (u0 - (1 : Int32))).toUInt32 >>> ((4 : Int32) &&& 31).toUInt32).toInt32).toUInt32 >>> ((2 : Int32) &&& 31).toUInt32).toInt32))]))
            refine own_st (fun _ k => XS.istoreN X0.here hx rfl (hb hby d6_73) rfl (l' := #[.val (.int ((((((u0 ^^^ (-1 : Int32)) &&& (u0 - (1 : Int32))).toUInt32 >>> ((4 : Int32) &&& 31).toUInt32).toInt32).toUInt32 >>> ((2 : Int32) &&& 31).toUInt32).toInt32)), .val (.int (7 : Int32))]) rfl k) ?_
            show own_Go _ _ _ _ (s₁.setTop (mkF m 74 #[.val (.int ((((((u0 ^^^ (-1 : Int32)) &&& (u0 - (1 : Int32))).toUInt32 >>> ((4 : Int32) &&& 31).toUInt32).toInt32).toUInt32 >>> ((2 : Int32) &&& 31).toUInt32).toInt32)), .val (.int (7 : Int32))] []))
            refine own_st (fun _ k => XS.iloadN X0.here hx rfl (hb hby d6_74) rfl k) ?_
            show own_Go _ _ _ _ (s₁.setTop (mkF m 75 #[.val (.int ((((((u0 ^^^ (-1 : Int32)) &&& (u0 - (1 : Int32))).toUInt32 >>> ((4 : Int32) &&& 31).toUInt32).toInt32).toUInt32 >>> ((2 : Int32) &&& 31).toUInt32).toInt32)), .val (.int (7 : Int32))] [(.int (7 : Int32))]))
            refine own_st (fun _ k => XS.iloadN X0.here hx rfl (hb hby d6_75) rfl k) ?_
            show own_Go _ _ _ _ (s₁.setTop (mkF m 76 #[.val (.int ((((((u0 ^^^ (-1 : Int32)) &&& (u0 - (1 : Int32))).toUInt32 >>> ((4 : Int32) &&& 31).toUInt32).toInt32).toUInt32 >>> ((2 : Int32) &&& 31).toUInt32).toInt32)), .val (.int (7 : Int32))] [(.int ((((((u0 ^^^ (-1 : Int32)) &&& (u0 - (1 : Int32))).toUInt32 >>> ((4 : Int32) &&& 31).toUInt32).toInt32).toUInt32 >>> ((2 : Int32) &&& 31).toUInt32).toInt32)), (.int (7 : Int32))]))
            refine own_st (fun _ k => XS.iconst X0.here hx rfl (hb hby d6_76) k) ?_
            show own_Go _ _ _ _ (s₁.setTop (mkF m 77 #[.val (.int ((((((u0 ^^^ (-1 : Int32)) &&& (u0 - (1 : Int32))).toUInt32 >>> ((4 : Int32) &&& 31).toUInt32).toInt32).toUInt32 >>> ((2 : Int32) &&& 31).toUInt32).toInt32)), .val (.int (7 : Int32))] [(.int (1 : Int32)), (.int ((((((u0 ^^^ (-1 : Int32)) &&& (u0 - (1 : Int32))).toUInt32 >>> ((4 : Int32) &&& 31).toUInt32).toInt32).toUInt32 >>> ((2 : Int32) &&& 31).toUInt32).toInt32)), (.int (7 : Int32))]))
            refine own_st (fun _ k => XS.iushr X0.here hx rfl (hb hby d6_77) rfl k) ?_
            show own_Go _ _ _ _ (s₁.setTop (mkF m 78 #[.val (.int ((((((u0 ^^^ (-1 : Int32)) &&& (u0 - (1 : Int32))).toUInt32 >>> ((4 : Int32) &&& 31).toUInt32).toInt32).toUInt32 >>> ((2 : Int32) &&& 31).toUInt32).toInt32)), .val (.int (7 : Int32))] [(.int ((((((((u0 ^^^ (-1 : Int32)) &&& (u0 - (1 : Int32))).toUInt32 >>> ((4 : Int32) &&& 31).toUInt32).toInt32).toUInt32 >>> ((2 : Int32) &&& 31).toUInt32).toInt32).toUInt32 >>> ((1 : Int32) &&& 31).toUInt32).toInt32)), (.int (7 : Int32))]))
            refine own_st (fun _ k => XS.iadd X0.here hx rfl (hb hby d6_78) rfl k) ?_
            show own_Go _ _ _ _ (s₁.setTop (mkF m 79 #[.val (.int ((((((u0 ^^^ (-1 : Int32)) &&& (u0 - (1 : Int32))).toUInt32 >>> ((4 : Int32) &&& 31).toUInt32).toInt32).toUInt32 >>> ((2 : Int32) &&& 31).toUInt32).toInt32)), .val (.int (7 : Int32))] [(.int ((7 : Int32) + ((((((((u0 ^^^ (-1 : Int32)) &&& (u0 - (1 : Int32))).toUInt32 >>> ((4 : Int32) &&& 31).toUInt32).toInt32).toUInt32 >>> ((2 : Int32) &&& 31).toUInt32).toInt32).toUInt32 >>> ((1 : Int32) &&& 31).toUInt32).toInt32)))]))
            obtain ⟨fs, hr, hrun, hended, hW, hsame⟩ := X0.leave (v := some (.int ((7 : Int32) + ((((((((u0 ^^^ (-1 : Int32)) &&& (u0 - (1 : Int32))).toUInt32 >>> ((4 : Int32) &&& 31).toUInt32).toInt32).toUInt32 >>> ((2 : Int32) &&& 31).toUInt32).toInt32).toUInt32 >>> ((1 : Int32) &&& 31).toUInt32).toInt32)))) (fun h => by rw [Bd.returns] at h; cases h)
            refine own_out (own_retI X0 hx Bd.returns (hb hby d6_79) hr) ⟨hrun, hended, _, _, rfl, ?_, ⟨_, rfl⟩, hW, hsame.mono (by decide) (by decide)⟩
            show Q6 Z u0 h0 n0 _ s₁.heap _
            have hv : own_ntz u0 = ((7 : Int32) + ((((((((u0 ^^^ (-1 : Int32)) &&& (u0 - (1 : Int32))).toUInt32 >>> ((4 : Int32) &&& 31).toUInt32).toInt32).toUInt32 >>> ((2 : Int32) &&& 31).toUInt32).toInt32).toUInt32 >>> ((1 : Int32) &&& 31).toUInt32).toInt32)) := by
              unfold own_ntz
              rw [if_pos hc1, if_neg hc2, if_neg hc10, if_pos hc14, if_pos hc15]
            exact ⟨by rw [hv], N0, e0⟩
          · skip
            refine own_st (fun _ k => XS.icmpYes X0.here hx rfl (pc0 := 64) (pc' := 74) rfl (hb hby d6_64) rfl (flt hc15).2.2.2 (by decide) (by decide) k) ?_
            show own_Go _ _ _ _ (s₁.setTop (mkF m 74 #[.val (.int ((((u0 ^^^ (-1 : Int32)) &&& (u0 - (1 : Int32))).toUInt32 >>> ((4 : Int32) &&& 31).toUInt32).toInt32)), .val (.int (5 : Int32))] []))
            refine own_st (fun _ k => XS.iloadN X0.here hx rfl (hb hby d6_74) rfl k) ?_
            show own_Go _ _ _ _ (s₁.setTop (mkF m 75 #[.val (.int ((((u0 ^^^ (-1 : Int32)) &&& (u0 - (1 : Int32))).toUInt32 >>> ((4 : Int32) &&& 31).toUInt32).toInt32)), .val (.int (5 : Int32))] [(.int (5 : Int32))]))
            refine own_st (fun _ k => XS.iloadN X0.here hx rfl (hb hby d6_75) rfl k) ?_
            show own_Go _ _ _ _ (s₁.setTop (mkF m 76 #[.val (.int ((((u0 ^^^ (-1 : Int32)) &&& (u0 - (1 : Int32))).toUInt32 >>> ((4 : Int32) &&& 31).toUInt32).toInt32)), .val (.int (5 : Int32))] [(.int ((((u0 ^^^ (-1 : Int32)) &&& (u0 - (1 : Int32))).toUInt32 >>> ((4 : Int32) &&& 31).toUInt32).toInt32)), (.int (5 : Int32))]))
            refine own_st (fun _ k => XS.iconst X0.here hx rfl (hb hby d6_76) k) ?_
            show own_Go _ _ _ _ (s₁.setTop (mkF m 77 #[.val (.int ((((u0 ^^^ (-1 : Int32)) &&& (u0 - (1 : Int32))).toUInt32 >>> ((4 : Int32) &&& 31).toUInt32).toInt32)), .val (.int (5 : Int32))] [(.int (1 : Int32)), (.int ((((u0 ^^^ (-1 : Int32)) &&& (u0 - (1 : Int32))).toUInt32 >>> ((4 : Int32) &&& 31).toUInt32).toInt32)), (.int (5 : Int32))]))
            refine own_st (fun _ k => XS.iushr X0.here hx rfl (hb hby d6_77) rfl k) ?_
            show own_Go _ _ _ _ (s₁.setTop (mkF m 78 #[.val (.int ((((u0 ^^^ (-1 : Int32)) &&& (u0 - (1 : Int32))).toUInt32 >>> ((4 : Int32) &&& 31).toUInt32).toInt32)), .val (.int (5 : Int32))] [(.int ((((((u0 ^^^ (-1 : Int32)) &&& (u0 - (1 : Int32))).toUInt32 >>> ((4 : Int32) &&& 31).toUInt32).toInt32).toUInt32 >>> ((1 : Int32) &&& 31).toUInt32).toInt32)), (.int (5 : Int32))]))
            refine own_st (fun _ k => XS.iadd X0.here hx rfl (hb hby d6_78) rfl k) ?_
            show own_Go _ _ _ _ (s₁.setTop (mkF m 79 #[.val (.int ((((u0 ^^^ (-1 : Int32)) &&& (u0 - (1 : Int32))).toUInt32 >>> ((4 : Int32) &&& 31).toUInt32).toInt32)), .val (.int (5 : Int32))] [(.int ((5 : Int32) + ((((((u0 ^^^ (-1 : Int32)) &&& (u0 - (1 : Int32))).toUInt32 >>> ((4 : Int32) &&& 31).toUInt32).toInt32).toUInt32 >>> ((1 : Int32) &&& 31).toUInt32).toInt32)))]))
            obtain ⟨fs, hr, hrun, hended, hW, hsame⟩ := X0.leave (v := some (.int ((5 : Int32) + ((((((u0 ^^^ (-1 : Int32)) &&& (u0 - (1 : Int32))).toUInt32 >>> ((4 : Int32) &&& 31).toUInt32).toInt32).toUInt32 >>> ((1 : Int32) &&& 31).toUInt32).toInt32)))) (fun h => by rw [Bd.returns] at h; cases h)
            refine own_out (own_retI X0 hx Bd.returns (hb hby d6_79) hr) ⟨hrun, hended, _, _, rfl, ?_, ⟨_, rfl⟩, hW, hsame.mono (by decide) (by decide)⟩
            show Q6 Z u0 h0 n0 _ s₁.heap _
            have hv : own_ntz u0 = ((5 : Int32) + ((((((u0 ^^^ (-1 : Int32)) &&& (u0 - (1 : Int32))).toUInt32 >>> ((4 : Int32) &&& 31).toUInt32).toInt32).toUInt32 >>> ((1 : Int32) &&& 31).toUInt32).toInt32)) := by
              unfold own_ntz
              rw [if_pos hc1, if_neg hc2, if_neg hc10, if_pos hc14, if_neg hc15]
            exact ⟨by rw [hv], N0, e0⟩
        · skip
          refine own_st (fun _ k => XS.icmpYes X0.here hx rfl (pc0 := 52) (pc' := 62) rfl (hb hby d6_52) rfl (flt hc14).2.2.2 (by decide) (by decide) k) ?_
          show own_Go _ _ _ _ (s₁.setTop (mkF m 62 #[.val (.int ((u0 ^^^ (-1 : Int32)) &&& (u0 - (1 : Int32)))), .val (.int (1 : Int32))] []))
          refine own_st (fun _ k => XS.iloadN X0.here hx rfl (hb hby d6_62) rfl k) ?_
          show own_Go _ _ _ _ (s₁.setTop (mkF m 63 #[.val (.int ((u0 ^^^ (-1 : Int32)) &&& (u0 - (1 : Int32)))), .val (.int (1 : Int32))] [(.int ((u0 ^^^ (-1 : Int32)) &&& (u0 - (1 : Int32))))]))
          refine own_st (fun _ k => XS.iconst X0.here hx rfl (hb hby d6_63) k) ?_
          show own_Go _ _ _ _ (s₁.setTop (mkF m 64 #[.val (.int ((u0 ^^^ (-1 : Int32)) &&& (u0 - (1 : Int32)))), .val (.int (1 : Int32))] [(.int (4 : Int32)), (.int ((u0 ^^^ (-1 : Int32)) &&& (u0 - (1 : Int32))))]))
          by_cases hc16 : (4 : Int32) < ((u0 ^^^ (-1 : Int32)) &&& (u0 - (1 : Int32)))
          · skip
            refine own_st (fun _ k => XS.icmpNo X0.here hx rfl (hb hby d6_64) rfl (tlt hc16).2.2.2 k) ?_
            show own_Go _ _ _ _ (s₁.setTop (mkF m 67 #[.val (.int ((u0 ^^^ (-1 : Int32)) &&& (u0 - (1 : Int32)))), .val (.int (1 : Int32))] []))
            refine own_st (fun _ k => XS.iinc X0.here hx rfl (hb hby d6_67) rfl (l' := #[.val (.int ((u0 ^^^ (-1 : Int32)) &&& (u0 - (1 : Int32)))), .val (.int (3 : Int32))]) rfl k) ?_
            show own_Go _ _ _ _ (s₁.setTop (mkF m 70 #[.val (.int ((u0 ^^^ (-1 : Int32)) &&& (u0 - (1 : Int32)))), .val (.int (3 : Int32))] []))
            refine own_st (fun _ k => XS.iloadN X0.here hx rfl (hb hby d6_70) rfl k) ?_
            show own_Go _ _ _ _ (s₁.setTop (mkF m 71 #[.val (.int ((u0 ^^^ (-1 : Int32)) &&& (u0 - (1 : Int32)))), .val (.int (3 : Int32))] [(.int ((u0 ^^^ (-1 : Int32)) &&& (u0 - (1 : Int32))))]))
            refine own_st (fun _ k => XS.iconst X0.here hx rfl (hb hby d6_71) k) ?_
            show own_Go _ _ _ _ (s₁.setTop (mkF m 72 #[.val (.int ((u0 ^^^ (-1 : Int32)) &&& (u0 - (1 : Int32)))), .val (.int (3 : Int32))] [(.int (2 : Int32)), (.int ((u0 ^^^ (-1 : Int32)) &&& (u0 - (1 : Int32))))]))
            refine own_st (fun _ k => XS.iushr X0.here hx rfl (hb hby d6_72) rfl k) ?_
            show own_Go _ _ _ _ (s₁.setTop (mkF m 73 #[.val (.int ((u0 ^^^ (-1 : Int32)) &&& (u0 - (1 : Int32)))), .val (.int (3 : Int32))] [(.int ((((u0 ^^^ (-1 : Int32)) &&& (u0 - (1 : Int32))).toUInt32 >>> ((2 : Int32) &&& 31).toUInt32).toInt32))]))
            refine own_st (fun _ k => XS.istoreN X0.here hx rfl (hb hby d6_73) rfl (l' := #[.val (.int ((((u0 ^^^ (-1 : Int32)) &&& (u0 - (1 : Int32))).toUInt32 >>> ((2 : Int32) &&& 31).toUInt32).toInt32)), .val (.int (3 : Int32))]) rfl k) ?_
            show own_Go _ _ _ _ (s₁.setTop (mkF m 74 #[.val (.int ((((u0 ^^^ (-1 : Int32)) &&& (u0 - (1 : Int32))).toUInt32 >>> ((2 : Int32) &&& 31).toUInt32).toInt32)), .val (.int (3 : Int32))] []))
            refine own_st (fun _ k => XS.iloadN X0.here hx rfl (hb hby d6_74) rfl k) ?_
            show own_Go _ _ _ _ (s₁.setTop (mkF m 75 #[.val (.int ((((u0 ^^^ (-1 : Int32)) &&& (u0 - (1 : Int32))).toUInt32 >>> ((2 : Int32) &&& 31).toUInt32).toInt32)), .val (.int (3 : Int32))] [(.int (3 : Int32))]))
            refine own_st (fun _ k => XS.iloadN X0.here hx rfl (hb hby d6_75) rfl k) ?_
            show own_Go _ _ _ _ (s₁.setTop (mkF m 76 #[.val (.int ((((u0 ^^^ (-1 : Int32)) &&& (u0 - (1 : Int32))).toUInt32 >>> ((2 : Int32) &&& 31).toUInt32).toInt32)), .val (.int (3 : Int32))] [(.int ((((u0 ^^^ (-1 : Int32)) &&& (u0 - (1 : Int32))).toUInt32 >>> ((2 : Int32) &&& 31).toUInt32).toInt32)), (.int (3 : Int32))]))
            refine own_st (fun _ k => XS.iconst X0.here hx rfl (hb hby d6_76) k) ?_
            show own_Go _ _ _ _ (s₁.setTop (mkF m 77 #[.val (.int ((((u0 ^^^ (-1 : Int32)) &&& (u0 - (1 : Int32))).toUInt32 >>> ((2 : Int32) &&& 31).toUInt32).toInt32)), .val (.int (3 : Int32))] [(.int (1 : Int32)), (.int ((((u0 ^^^ (-1 : Int32)) &&& (u0 - (1 : Int32))).toUInt32 >>> ((2 : Int32) &&& 31).toUInt32).toInt32)), (.int (3 : Int32))]))
            refine own_st (fun _ k => XS.iushr X0.here hx rfl (hb hby d6_77) rfl k) ?_
            show own_Go _ _ _ _ (s₁.setTop (mkF m 78 #[.val (.int ((((u0 ^^^ (-1 : Int32)) &&& (u0 - (1 : Int32))).toUInt32 >>> ((2 : Int32) &&& 31).toUInt32).toInt32)), .val (.int (3 : Int32))] [(.int ((((((u0 ^^^ (-1 : Int32)) &&& (u0 - (1 : Int32))).toUInt32 >>> ((2 : Int32) &&& 31).toUInt32).toInt32).toUInt32 >>> ((1 : Int32) &&& 31).toUInt32).toInt32)), (.int (3 : Int32))]))
            refine own_st (fun _ k => XS.iadd X0.here hx rfl (hb hby d6_78) rfl k) ?_
            show own_Go _ _ _ _ (s₁.setTop (mkF m 79 #[.val (.int ((((u0 ^^^ (-1 : Int32)) &&& (u0 - (1 : Int32))).toUInt32 >>> ((2 : Int32) &&& 31).toUInt32).toInt32)), .val (.int (3 : Int32))] [(.int ((3 : Int32) + ((((((u0 ^^^ (-1 : Int32)) &&& (u0 - (1 : Int32))).toUInt32 >>> ((2 : Int32) &&& 31).toUInt32).toInt32).toUInt32 >>> ((1 : Int32) &&& 31).toUInt32).toInt32)))]))
            obtain ⟨fs, hr, hrun, hended, hW, hsame⟩ := X0.leave (v := some (.int ((3 : Int32) + ((((((u0 ^^^ (-1 : Int32)) &&& (u0 - (1 : Int32))).toUInt32 >>> ((2 : Int32) &&& 31).toUInt32).toInt32).toUInt32 >>> ((1 : Int32) &&& 31).toUInt32).toInt32)))) (fun h => by rw [Bd.returns] at h; cases h)
            refine own_out (own_retI X0 hx Bd.returns (hb hby d6_79) hr) ⟨hrun, hended, _, _, rfl, ?_, ⟨_, rfl⟩, hW, hsame.mono (by decide) (by decide)⟩
            show Q6 Z u0 h0 n0 _ s₁.heap _
            have hv : own_ntz u0 = ((3 : Int32) + ((((((u0 ^^^ (-1 : Int32)) &&& (u0 - (1 : Int32))).toUInt32 >>> ((2 : Int32) &&& 31).toUInt32).toInt32).toUInt32 >>> ((1 : Int32) &&& 31).toUInt32).toInt32)) := by
              unfold own_ntz
              rw [if_pos hc1, if_neg hc2, if_neg hc10, if_neg hc14, if_pos hc16]
            exact ⟨by rw [hv], N0, e0⟩
          · skip
            refine own_st (fun _ k => XS.icmpYes X0.here hx rfl (pc0 := 64) (pc' := 74) rfl (hb hby d6_64) rfl (flt hc16).2.2.2 (by decide) (by decide) k) ?_
            show own_Go _ _ _ _ (s₁.setTop (mkF m 74 #[.val (.int ((u0 ^^^ (-1 : Int32)) &&& (u0 - (1 : Int32)))), .val (.int (1 : Int32))] []))
            refine own_st (fun _ k => XS.iloadN X0.here hx rfl (hb hby d6_74) rfl k) ?_
            show own_Go _ _ _ _ (s₁.setTop (mkF m 75 #[.val (.int ((u0 ^^^ (-1 : Int32)) &&& (u0 - (1 : Int32)))), .val (.int (1 : Int32))] [(.int (1 : Int32))]))
            refine own_st (fun _ k => XS.iloadN X0.here hx rfl (hb hby d6_75) rfl k) ?_
            show own_Go _ _ _ _ (s₁.setTop (mkF m 76 #[.val (.int ((u0 ^^^ (-1 : Int32)) &&& (u0 - (1 : Int32)))), .val (.int (1 : Int32))] [(.int ((u0 ^^^ (-1 : Int32)) &&& (u0 - (1 : Int32)))), (.int (1 : Int32))]))
            refine own_st (fun _ k => XS.iconst X0.here hx rfl (hb hby d6_76) k) ?_
            show own_Go _ _ _ _ (s₁.setTop (mkF m 77 #[.val (.int ((u0 ^^^ (-1 : Int32)) &&& (u0 - (1 : Int32)))), .val (.int (1 : Int32))] [(.int (1 : Int32)), (.int ((u0 ^^^ (-1 : Int32)) &&& (u0 - (1 : Int32)))), (.int (1 : Int32))]))
            refine own_st (fun _ k => XS.iushr X0.here hx rfl (hb hby d6_77) rfl k) ?_
            show own_Go _ _ _ _ (s₁.setTop (mkF m 78 #[.val (.int ((u0 ^^^ (-1 : Int32)) &&& (u0 - (1 : Int32)))), .val (.int (1 : Int32))] [(.int ((((u0 ^^^ (-1 : Int32)) &&& (u0 - (1 : Int32))).toUInt32 >>> ((1 : Int32) &&& 31).toUInt32).toInt32)), (.int (1 : Int32))]))
            refine own_st (fun _ k => XS.iadd X0.here hx rfl (hb hby d6_78) rfl k) ?_
            show own_Go _ _ _ _ (s₁.setTop (mkF m 79 #[.val (.int ((u0 ^^^ (-1 : Int32)) &&& (u0 - (1 : Int32)))), .val (.int (1 : Int32))] [(.int ((1 : Int32) + ((((u0 ^^^ (-1 : Int32)) &&& (u0 - (1 : Int32))).toUInt32 >>> ((1 : Int32) &&& 31).toUInt32).toInt32)))]))
            obtain ⟨fs, hr, hrun, hended, hW, hsame⟩ := X0.leave (v := some (.int ((1 : Int32) + ((((u0 ^^^ (-1 : Int32)) &&& (u0 - (1 : Int32))).toUInt32 >>> ((1 : Int32) &&& 31).toUInt32).toInt32)))) (fun h => by rw [Bd.returns] at h; cases h)
            refine own_out (own_retI X0 hx Bd.returns (hb hby d6_79) hr) ⟨hrun, hended, _, _, rfl, ?_, ⟨_, rfl⟩, hW, hsame.mono (by decide) (by decide)⟩
            show Q6 Z u0 h0 n0 _ s₁.heap _
            have hv : own_ntz u0 = ((1 : Int32) + ((((u0 ^^^ (-1 : Int32)) &&& (u0 - (1 : Int32))).toUInt32 >>> ((1 : Int32) &&& 31).toUInt32).toInt32)) := by
              unfold own_ntz
              rw [if_pos hc1, if_neg hc2, if_neg hc10, if_neg hc14, if_neg hc16]
            exact ⟨by rw [hv], N0, e0⟩
  · skip
    refine own_st (fun _ k => XS.ifNo X0.here hx rfl (hb hby d6_9) rfl ((if0 _ _).trans (flt hc1).2.2.1) k) ?_
    show own_Go _ _ _ _ (s₁.setTop (mkF m 12 #[.val (.int ((u0 ^^^ (-1 : Int32)) &&& (u0 - (1 : Int32)))), .unset] []))
    refine own_st (fun _ k => XS.iloadN X0.here hx rfl (hb hby d6_12) rfl k) ?_
    show own_Go _ _ _ _ (s₁.setTop (mkF m 13 #[.val (.int ((u0 ^^^ (-1 : Int32)) &&& (u0 - (1 : Int32)))), .unset] [(.int ((u0 ^^^ (-1 : Int32)) &&& (u0 - (1 : Int32))))]))
    refine own_st (fun _ k => XS.bipush X0.here hx rfl (hb hby d6_13) k) ?_
    show own_Go _ _ _ _ (s₁.setTop (mkF m 15 #[.val (.int ((u0 ^^^ (-1 : Int32)) &&& (u0 - (1 : Int32)))), .unset] [(.int (32 : Int32)), (.int ((u0 ^^^ (-1 : Int32)) &&& (u0 - (1 : Int32))))]))
    refine own_st (fun _ k => XS.iand X0.here hx rfl (hb hby d6_15) rfl k) ?_
    show own_Go _ _ _ _ (s₁.setTop (mkF m 16 #[.val (.int ((u0 ^^^ (-1 : Int32)) &&& (u0 - (1 : Int32)))), .unset] [(.int (((u0 ^^^ (-1 : Int32)) &&& (u0 - (1 : Int32))) &&& (32 : Int32)))]))
    obtain ⟨fs, hr, hrun, hended, hW, hsame⟩ := X0.leave (v := some (.int (((u0 ^^^ (-1 : Int32)) &&& (u0 - (1 : Int32))) &&& (32 : Int32)))) (fun h => by rw [Bd.returns] at h; cases h)
    refine own_out (own_retI X0 hx Bd.returns (hb hby d6_16) hr) ⟨hrun, hended, _, _, rfl, ?_, ⟨_, rfl⟩, hW, hsame.mono (by decide) (by decide)⟩
    show Q6 Z u0 h0 n0 _ s₁.heap _
    have hv : own_ntz u0 = (((u0 ^^^ (-1 : Int32)) &&& (u0 - (1 : Int32))) &&& (32 : Int32)) := by
      unfold own_ntz
      rw [if_neg hc1]
    exact ⟨by rw [hv], N0, e0⟩
theorem d4_0 : decode prog_39_method_1_code 0 = .ok (.aload_n 0, 1) := by decide +kernel
theorem d4_1 : decode prog_39_method_1_code 1 = .ok (.invokespecial 1, 3) := by decide +kernel
theorem d4_4 : decode prog_39_method_1_code 4 = .ok (.aload_n 0, 1) := by decide +kernel
theorem d4_5 : decode prog_39_method_1_code 5 = .ok (.bipush 16, 2) := by decide +kernel
theorem d4_7 : decode prog_39_method_1_code 7 = .ok (.newarray .long, 2) := by decide +kernel
theorem d4_9 : decode prog_39_method_1_code 9 = .ok (.putfield 9, 3) := by decide +kernel
theorem d4_12 : decode prog_39_method_1_code 12 = .ok (.aload_n 0, 1) := by decide +kernel
theorem d4_13 : decode prog_39_method_1_code 13 = .ok (.bipush 16, 2) := by decide +kernel
theorem d4_15 : decode prog_39_method_1_code 15 = .ok (.newarray .long, 2) := by decide +kernel
theorem d4_17 : decode prog_39_method_1_code 17 = .ok (.putfield 13, 3) := by decide +kernel
theorem d4_20 : decode prog_39_method_1_code 20 = .ok (.aload_n 0, 1) := by decide +kernel
theorem d4_21 : decode prog_39_method_1_code 21 = .ok (.bipush 16, 2) := by decide +kernel
theorem d4_23 : decode prog_39_method_1_code 23 = .ok (.invokestatic 16, 3) := by decide +kernel
theorem d4_26 : decode prog_39_method_1_code 26 = .ok (.putfield 22, 3) := by decide +kernel
theorem d4_29 : decode prog_39_method_1_code 29 = .ok (.return_, 1) := by decide +kernel
theorem own_pd4 : parseMethodDescriptor "()V" = some ⟨[], none⟩ := by decide +kernel
theorem own_pn2 : plainName "quillvax/store/LongMap" = true := by first | (simp [plainName, overriddenIn]; done) | decide +kernel
def Q4 (Z : State) (ob : Addr) (o_keys : Value) (o_values : Value) (o_slotBits : Value) (o_size : Value) (h0 : Heap) (n0 : Nat) (v : Option Value) (h : Heap) (L : List Loc) : Prop := ∃ (ka wa : Addr) (kk kw : ClassId), v = none ∧ Fr n0 L ∧ Keep h0 h [ob] ∧ Exa Z h ob "quillvax/store/LongMap" ∧ Fld Z h ob "quillvax/store/LongMap" "keys" "[J" (.ref ka) ∧ Fld Z h ob "quillvax/store/LongMap" "values" "[J" (.ref wa) ∧ Fld Z h ob "quillvax/store/LongMap" "slotBits" "I" (.int (4 : Int32)) ∧ Fld Z h ob "quillvax/store/LongMap" "size" "I" o_size ∧ Arv Z h ka kk .long (16 : Int32) (own_vs own_z) (.long (0 : Int64)) ∧ Arv Z h wa kw .long (16 : Int32) (own_vs own_z) (.long (0 : Int64)) ∧ h0.size ≤ ka ∧ h0.size ≤ wa ∧ ka ≠ wa
theorem ef_4 (m : MethodId) (x0 : Addr) : entryFrame m #[(.ref x0)] 1 = mkF m 0 #[.val (.ref x0)] [] := by first | (simp [entryFrame, mkF, argsToLocals, Value.category]; done) | rfl
set_option maxRecDepth 65536 in
set_option maxHeartbeats 40000000 in
theorem rm4 (l : Launch) (Z : State) (a0 : Array Value) (hw : ∀ d ∈ tables_1, d.before a0 Z = true) (ws : List Jvm.Cond) (ob : Addr) (o_keys : Value) (o_values : Value) (o_slotBits : Value) (o_size : Value) (h0 : Heap) (n0 : Nat) (Z0 : n0 ≤ h0.size) (E_ob : Exa Z h0 ob "quillvax/store/LongMap") (gnob : n0 ≤ ob) (F_keys : Fld Z h0 ob "quillvax/store/LongMap" "keys" "[J" o_keys) (F_values : Fld Z h0 ob "quillvax/store/LongMap" "values" "[J" o_values) (F_slotBits : Fld Z h0 ob "quillvax/store/LongMap" "slotBits" "I" o_slotBits) (F_size : Fld Z h0 ob "quillvax/store/LongMap" "size" "I" o_size) :
    MetFree l (⟨"quillvax/store/LongMap", "<init>", "()V"⟩ : MethodName) (head1 (Jvm.Cond.code (⟨"quillvax/store/LongMap", "<init>", "()V"⟩ : MethodName) prog_39_method_1_code 1 none :: ws) ({ frames := 1, cells := 2, slots := 32, locals := 20 } : Room)) (fun a U => a = #[(.ref ob)] ∧ Z.Warmed39 U.vm ∧ U.heap = h0) (fun _ _ _ _ _ => True) (fun _ U o U' => ∃ v L, o = .returned v ∧ Q4 Z ob o_keys o_values o_slotBits o_size h0 n0 v U'.heap L ∧ FrameEnd U o U' L ({ frames := 1, cells := 2, slots := 32, locals := 20 } : Room).cells ({ frames := 1, cells := 2, slots := 32, locals := 20 } : Room).slots) := by
  refine MetFree.of_bodySF (plainFor_of_name own_pn2) hisR ?_
  intro p e s m args below meth c s₁ Bd hml0 hP hK
  obtain ⟨rfl, hZ, hh⟩ := hP
  have hx := Bd.exec
  have hby := Bd.bytes
  have hml : c.maxLocals = 1 := hml0
  have hown : s.vm.findClass "quillvax/store/LongMap" = some m.cls := findClass_of_methodNamed Bd.named
  have hnm := (name_of_methodNamed Bd.named Bd.method).1
  have X0 : Stand p l e ({ frames := 1, cells := 2, slots := 32, locals := 20 } : Room) s m #[(.ref ob)] below meth c s₁ [] 0 0 := Stand.of_body Bd
  have e0 : s₁.heap = h0 := by rw [← hh, Bd.state]; rfl
  have N0 := Fr.nil n0
  refine own_in ?_
  refine own_st (fun _ k => castTop (ef_4 m ob) k) ?_
  have K0 : Keep h0 h0 [ob] := Keep.refl h0 [ob]
  show own_Go _ _ _ _ (s₁.setTop (mkF m 0 #[.val (.ref ob)] []))
  refine own_st (fun _ k => XS.aloadN X0.here hx rfl (hb hby d4_0) rfl rfl k) ?_
  show own_Go _ _ _ _ (s₁.setTop (mkF m 1 #[.val (.ref ob)] [(.ref ob)]))
  obtain ⟨T17, X17, e17, st17⟩ := initO X0 hx hZ hown (hw _ (List.mem_of_getElem? (i := 20) rfl)) (hw _ (List.mem_of_getElem? (i := 21) rfl)) (hw _ (List.mem_of_getElem? (i := 22) rfl)) e0 (g := (mkF m 1 #[.val (.ref ob)] [(.ref ob)])) rfl (by rw [hml]; rfl) rfl (hb hby d4_1) (by decide) (W := 0) (by show 2 * 0 + _ ≤ _; exact Nat.le_of_eq rfl) (by decide)
  refine own_st st17 ?_
  show own_Go _ _ _ _ (T17.setTop (mkF m 4 #[.val (.ref ob)] []))
  refine own_st (fun _ k => XS.aloadN X17.here hx rfl (hb hby d4_4) rfl rfl k) ?_
  show own_Go _ _ _ _ (T17.setTop (mkF m 5 #[.val (.ref ob)] [(.ref ob)]))
  refine own_st (fun _ k => XS.bipush X17.here hx rfl (hb hby d4_5) k) ?_
  show own_Go _ _ _ _ (T17.setTop (mkF m 7 #[.val (.ref ob)] [(.int (16 : Int32)), (.ref ob)]))
  obtain ⟨T18, h18, k18, X18, e18, E18, A18, st18⟩ := newP X17 hx hZ (hw _ (List.mem_of_getElem? (i := 6) rfl)) e17 (g := (mkF m 7 #[.val (.ref ob)] [(.int (16 : Int32)), (.ref ob)])) rfl (hb hby d4_7) rfl (by decide : ¬ ((16 : Int32) < (0 : Int32))) (cap := 16) (by decide : ((16 : Int32)).toNatClampNeg ≤ 16) (by decide) (by decide) (by decide)
  obtain ⟨b18, g18⟩ : ∃ z, z = h0.size := ⟨_, rfl⟩
  rw [← g18] at A18 st18
  refine own_st st18 ?_
  have neob_b18 : ob ≠ b18 := Nat.ne_of_lt (Nat.lt_of_lt_of_le E_ob.lt (Nat.le_of_eq g18.symm))
  have x18_E_ob := E_ob.ext E18
  have x18_F_ob_keys := F_keys.ext E18
  have x18_F_ob_values := F_values.ext E18
  have x18_F_ob_slotBits := F_slotBits.ext E18
  have x18_F_ob_size := F_size.ext E18
  have Z18 : n0 ≤ h18.size := Nat.le_trans Z0 E18.1
  have gnb18 : n0 ≤ b18 := Nat.le_trans Z0 (Nat.le_of_eq g18.symm)
  have gkb18 : h0.size ≤ b18 := Nat.le_trans K0.1 (Nat.le_of_eq g18.symm)
  have K18 : Keep h0 h18 [ob] := K0.ext E18
  have V18 : Arv Z h18 b18 k18 .long (16 : Int32) [(.long (0 : Int64)), (.long (0 : Int64)), (.long (0 : Int64)), (.long (0 : Int64)), (.long (0 : Int64)), (.long (0 : Int64)), (.long (0 : Int64)), (.long (0 : Int64)), (.long (0 : Int64)), (.long (0 : Int64)), (.long (0 : Int64)), (.long (0 : Int64)), (.long (0 : Int64)), (.long (0 : Int64)), (.long (0 : Int64)), (.long (0 : Int64))] (.long (0 : Int64)) := (Arv.new A18 (by decide : ¬ ((16 : Int32) < (0 : Int32)))).pad (pad_rep [] (.long (0 : Int64)) 16)
  show own_Go _ _ _ _ (T18.setTop (mkF m 9 #[.val (.ref ob)] [(.ref b18), (.ref ob)]))
  obtain ⟨T19, h19, X19, e19, W19, st19⟩ := putF X18 hx hZ hown (host := "") (Or.inl (hw _ (List.mem_of_getElem? (i := 23) rfl))) Via.refl e18 x18_F_ob_keys x18_E_ob (Or.inl (hw _ (List.mem_of_getElem? (i := 24) rfl))) (hw _ (List.mem_of_getElem? (i := 15) rfl)) (ty := (.array .long)) (by decide) rfl rfl (g := (mkF m 9 #[.val (.ref ob)] [(.ref b18), (.ref ob)])) rfl rfl (hb hby d4_9)
  refine own_st st19 ?_
  have Fw19 : Fld Z h19 ob "quillvax/store/LongMap" "keys" "[J" (.ref b18) := x18_F_ob_keys.same W19
  have y19_E_ob := x18_E_ob.wr W19
  have y19_F_ob_values := x18_F_ob_values.other W19 (Or.inr (slot_ne (Or.inl (hw _ (List.mem_of_getElem? (i := 26) rfl))) (Or.inl (hw _ (List.mem_of_getElem? (i := 24) rfl))) (by decide) (t := (.array .long)) (t' := (.array .long)) (by decide) (by decide)))
  have y19_F_ob_slotBits := x18_F_ob_slotBits.other W19 (Or.inr (slot_ne (Or.inl (hw _ (List.mem_of_getElem? (i := 33) rfl))) (Or.inl (hw _ (List.mem_of_getElem? (i := 24) rfl))) (by decide) (t := .int) (t' := (.array .long)) (by decide) (by decide)))
  have y19_F_ob_size := x18_F_ob_size.other W19 (Or.inr (slot_ne (Or.inl (hw _ (List.mem_of_getElem? (i := 66) rfl))) (Or.inl (hw _ (List.mem_of_getElem? (i := 24) rfl))) (by decide) (t := .int) (t' := (.array .long)) (by decide) (by decide)))
  have y19_V_b18 := V18.other W19 (Ne.symm neob_b18)
  have Z19 : n0 ≤ h19.size := Nat.le_trans Z18 (Nat.le_of_eq W19.size.symm)
  have N19 := Fr.snoc X19 N0 gnob
  have K19 : Keep h0 h19 [ob] := K18.wr W19 (Or.inl (by simp))
  show own_Go _ _ _ _ (T19.setTop (mkF m 12 #[.val (.ref ob)] []))
  refine own_st (fun _ k => XS.aloadN X19.here hx rfl (hb hby d4_12) rfl rfl k) ?_
  show own_Go _ _ _ _ (T19.setTop (mkF m 13 #[.val (.ref ob)] [(.ref ob)]))
  refine own_st (fun _ k => XS.bipush X19.here hx rfl (hb hby d4_13) k) ?_
  show own_Go _ _ _ _ (T19.setTop (mkF m 15 #[.val (.ref ob)] [(.int (16 : Int32)), (.ref ob)]))
  obtain ⟨T20, h20, k20, X20, e20, E20, A20, st20⟩ := newP X19 hx hZ (hw _ (List.mem_of_getElem? (i := 6) rfl)) e19 (g := (mkF m 15 #[.val (.ref ob)] [(.int (16 : Int32)), (.ref ob)])) rfl (hb hby d4_15) rfl (by decide : ¬ ((16 : Int32) < (0 : Int32))) (cap := 16) (by decide : ((16 : Int32)).toNatClampNeg ≤ 16) (by decide) (by decide) (by decide)
  obtain ⟨b20, g20⟩ : ∃ z, z = h19.size := ⟨_, rfl⟩
  rw [← g20] at A20 st20
  refine own_st st20 ?_
  have neb18_b20 : b18 ≠ b20 := Nat.ne_of_lt (Nat.lt_of_lt_of_le y19_V_b18.lt (Nat.le_of_eq g20.symm))
  have neob_b20 : ob ≠ b20 := Nat.ne_of_lt (Nat.lt_of_lt_of_le y19_E_ob.lt (Nat.le_of_eq g20.symm))
  have x20_E_ob := y19_E_ob.ext E20
  have x20_F_ob_keys := Fw19.ext E20
  have x20_F_ob_values := y19_F_ob_values.ext E20
  have x20_F_ob_slotBits := y19_F_ob_slotBits.ext E20
  have x20_F_ob_size := y19_F_ob_size.ext E20
  have x20_V_b18 := y19_V_b18.ext E20
  have Z20 : n0 ≤ h20.size := Nat.le_trans Z19 E20.1
  have gnb20 : n0 ≤ b20 := Nat.le_trans Z19 (Nat.le_of_eq g20.symm)
  have gkb20 : h0.size ≤ b20 := Nat.le_trans K19.1 (Nat.le_of_eq g20.symm)
  have K20 : Keep h0 h20 [ob] := K19.ext E20
  have V20 : Arv Z h20 b20 k20 .long (16 : Int32) [(.long (0 : Int64)), (.long (0 : Int64)), (.long (0 : Int64)), (.long (0 : Int64)), (.long (0 : Int64)), (.long (0 : Int64)), (.long (0 : Int64)), (.long (0 : Int64)), (.long (0 : Int64)), (.long (0 : Int64)), (.long (0 : Int64)), (.long (0 : Int64)), (.long (0 : Int64)), (.long (0 : Int64)), (.long (0 : Int64)), (.long (0 : Int64))] (.long (0 : Int64)) := (Arv.new A20 (by decide : ¬ ((16 : Int32) < (0 : Int32)))).pad (pad_rep [] (.long (0 : Int64)) 16)
  show own_Go _ _ _ _ (T20.setTop (mkF m 17 #[.val (.ref ob)] [(.ref b20), (.ref ob)]))
  obtain ⟨T21, h21, X21, e21, W21, st21⟩ := putF X20 hx hZ hown (host := "") (Or.inl (hw _ (List.mem_of_getElem? (i := 25) rfl))) Via.refl e20 x20_F_ob_values x20_E_ob (Or.inl (hw _ (List.mem_of_getElem? (i := 26) rfl))) (hw _ (List.mem_of_getElem? (i := 15) rfl)) (ty := (.array .long)) (by decide) rfl rfl (g := (mkF m 17 #[.val (.ref ob)] [(.ref b20), (.ref ob)])) rfl rfl (hb hby d4_17)
  refine own_st st21 ?_
  have Fw21 : Fld Z h21 ob "quillvax/store/LongMap" "values" "[J" (.ref b20) := x20_F_ob_values.same W21
  have y21_E_ob := x20_E_ob.wr W21
  have y21_F_ob_keys := x20_F_ob_keys.other W21 (Or.inr (slot_ne (Or.inl (hw _ (List.mem_of_getElem? (i := 24) rfl))) (Or.inl (hw _ (List.mem_of_getElem? (i := 26) rfl))) (by decide) (t := (.array .long)) (t' := (.array .long)) (by decide) (by decide)))
  have y21_F_ob_slotBits := x20_F_ob_slotBits.other W21 (Or.inr (slot_ne (Or.inl (hw _ (List.mem_of_getElem? (i := 33) rfl))) (Or.inl (hw _ (List.mem_of_getElem? (i := 26) rfl))) (by decide) (t := .int) (t' := (.array .long)) (by decide) (by decide)))
  have y21_F_ob_size := x20_F_ob_size.other W21 (Or.inr (slot_ne (Or.inl (hw _ (List.mem_of_getElem? (i := 66) rfl))) (Or.inl (hw _ (List.mem_of_getElem? (i := 26) rfl))) (by decide) (t := .int) (t' := (.array .long)) (by decide) (by decide)))
  have y21_V_b18 := x20_V_b18.other W21 (Ne.symm neob_b18)
  have y21_V_b20 := V20.other W21 (Ne.symm neob_b20)
  have Z21 : n0 ≤ h21.size := Nat.le_trans Z20 (Nat.le_of_eq W21.size.symm)
  have N21 := Fr.snoc X21 N19 gnob
  have K21 : Keep h0 h21 [ob] := K20.wr W21 (Or.inl (by simp))
  show own_Go _ _ _ _ (T21.setTop (mkF m 20 #[.val (.ref ob)] []))
  refine own_st (fun _ k => XS.aloadN X21.here hx rfl (hb hby d4_20) rfl rfl k) ?_
  show own_Go _ _ _ _ (T21.setTop (mkF m 21 #[.val (.ref ob)] [(.ref ob)]))
  refine own_st (fun _ k => XS.bipush X21.here hx rfl (hb hby d4_21) k) ?_
  show own_Go _ _ _ _ (T21.setTop (mkF m 23 #[.val (.ref ob)] [(.int (16 : Int32)), (.ref ob)]))
  obtain ⟨_, _, ⟨T22, L22, k22, n22⟩, -, X22, ⟨Lc22, hQ22, l22, y22, z22⟩, st22⟩ := Jvm.LawKit.callS X21 hx (y := (⟨"java/lang/Integer", "numberOfTrailingZeros", "(I)I"⟩ : MethodName)) hown (mvT hZ (hw _ (List.mem_of_getElem? (i := 27) rfl))) (mvT hZ (hw _ (List.mem_of_getElem? (i := 28) rfl))) (mvT hZ (hw _ (List.mem_of_getElem? (i := 29) rfl))) (mvT hZ (hw _ (List.mem_of_getElem? (i := 30) rfl))) (by decide) (backOf (W := 1) (rm6 l Z a0 hw [] (16 : Int32) h21 n0 Z21 ) hZ (hw _ (List.mem_of_getElem? (i := 30) rfl)) (hw _ (List.mem_of_getElem? (i := 29) rfl)) (by decide) (by decide)) (g := (mkF m 23 #[.val (.ref ob)] [(.int (16 : Int32)), (.ref ob)])) rfl (by rw [hml]; rfl) (argsL := [(.int (16 : Int32))]) (rest := [(.ref ob)]) (lenOf own_pd3 rfl) rfl (by show 2 * 0 + _ ≤ _; exact Nat.le_of_eq rfl) (hb hby d4_23) (fun _ _ => ⟨rfl, e21, (by decide : 2 + 0 ≤ _), (by decide : 32 + 0 ≤ _)⟩)
  dsimp only [Pt.U, Pt.locs, Pt.cells, Pt.slots] at X22 l22 y22 z22 st22 hQ22
  rw [l22, y22, z22] at X22
  obtain ⟨rfl, Nq22, eq22⟩ := hQ22
  have N22 := Fr.app N21 Nq22
  refine own_st st22 ?_
  rw [show (own_ntz (16 : Int32)) = (4 : Int32) from by decide]
  show own_Go _ _ _ _ (T22.setTop (mkF m 26 #[.val (.ref ob)] [(.int (4 : Int32)), (.ref ob)]))
  obtain ⟨T23, h23, X23, e23, W23, st23⟩ := putF X22 hx hZ hown (host := "") (Or.inl (hw _ (List.mem_of_getElem? (i := 32) rfl))) Via.refl eq22 y21_F_ob_slotBits y21_E_ob (Or.inl (hw _ (List.mem_of_getElem? (i := 33) rfl))) (hw _ (List.mem_of_getElem? (i := 15) rfl)) (ty := .int) (by decide) rfl rfl (g := (mkF m 26 #[.val (.ref ob)] [(.int (4 : Int32)), (.ref ob)])) rfl rfl (hb hby d4_26)
  refine own_st st23 ?_
  have Fw23 : Fld Z h23 ob "quillvax/store/LongMap" "slotBits" "I" (.int (4 : Int32)) := y21_F_ob_slotBits.same W23
  have y23_E_ob := y21_E_ob.wr W23
  have y23_F_ob_keys := y21_F_ob_keys.other W23 (Or.inr (slot_ne (Or.inl (hw _ (List.mem_of_getElem? (i := 24) rfl))) (Or.inl (hw _ (List.mem_of_getElem? (i := 33) rfl))) (by decide) (t := (.array .long)) (t' := .int) (by decide) (by decide)))
  have y23_F_ob_values := Fw21.other W23 (Or.inr (slot_ne (Or.inl (hw _ (List.mem_of_getElem? (i := 26) rfl))) (Or.inl (hw _ (List.mem_of_getElem? (i := 33) rfl))) (by decide) (t := (.array .long)) (t' := .int) (by decide) (by decide)))
  have y23_F_ob_size := y21_F_ob_size.other W23 (Or.inr (slot_ne (Or.inl (hw _ (List.mem_of_getElem? (i := 66) rfl))) (Or.inl (hw _ (List.mem_of_getElem? (i := 33) rfl))) (by decide) (t := .int) (t' := .int) (by decide) (by decide)))
  have y23_V_b18 := y21_V_b18.other W23 (Ne.symm neob_b18)
  have y23_V_b20 := y21_V_b20.other W23 (Ne.symm neob_b20)
  have Z23 : n0 ≤ h23.size := Nat.le_trans Z21 (Nat.le_of_eq W23.size.symm)
  have N23 := Fr.snoc X23 N22 gnob
  have K23 : Keep h0 h23 [ob] := K21.wr W23 (Or.inl (by simp))
  show own_Go _ _ _ _ (T23.setTop (mkF m 29 #[.val (.ref ob)] []))
  obtain ⟨fs, hr, hrun, hended, hW, hsame⟩ := X23.leave (v := none) (fun _ => rfl)
  refine own_out (X23.returnOut hx Bd.returns (hb hby d4_29) hr) ⟨hrun, hended, _, _, rfl, ?_, ⟨_, rfl⟩, hW, hsame.mono (by decide) (by decide)⟩
  show Q4 Z ob o_keys o_values o_slotBits o_size h0 n0 _ T23.heap _
  rw [e23]
  exact ⟨b18, b20, k18, k20, rfl, N23, K23, y23_E_ob, y23_F_ob_keys, y23_F_ob_values, Fw23, y23_F_ob_size, y23_V_b18, y23_V_b20, gkb18, gkb20, neb18_b20⟩
theorem d9_0 : decode prog_39_method_9_code 0 = .ok (.lload_n 1, 1) := by decide +kernel
theorem d9_1 : decode prog_39_method_9_code 1 = .ok (.ldc2_w 55, 3) := by decide +kernel
theorem d9_4 : decode prog_39_method_9_code 4 = .ok (.lmul, 1) := by decide +kernel
theorem d9_5 : decode prog_39_method_9_code 5 = .ok (.bipush 64, 2) := by decide +kernel
theorem d9_7 : decode prog_39_method_9_code 7 = .ok (.aload_n 0, 1) := by decide +kernel
theorem d9_8 : decode prog_39_method_9_code 8 = .ok (.getfield 22, 3) := by decide +kernel
theorem d9_11 : decode prog_39_method_9_code 11 = .ok (.isub, 1) := by decide +kernel
theorem d9_12 : decode prog_39_method_9_code 12 = .ok (.lushr, 1) := by decide +kernel
theorem d9_13 : decode prog_39_method_9_code 13 = .ok (.l2i, 1) := by decide +kernel
theorem d9_14 : decode prog_39_method_9_code 14 = .ok (.ireturn, 1) := by decide +kernel
theorem own_pd5 : parseMethodDescriptor "(J)I" = some ⟨[.long], some .int⟩ := by decide +kernel
def Q9 (Z : State) (ob : Addr) (u1 : Int64) (h0 : Heap) (n0 : Nat) (v : Option Value) (h : Heap) (L : List Loc) : Prop := v = some (.int (own_ho u1)) ∧ Fr n0 L ∧ h = h0
theorem ef_9 (m : MethodId) (x0 : Addr) (x1 : Int64) : entryFrame m #[(.ref x0), (.long x1)] 3 = mkF m 0 #[.val (.ref x0), .val (.long x1), .second] [] := by first | (simp [entryFrame, mkF, argsToLocals, Value.category]; done) | rfl
set_option maxRecDepth 65536 in
set_option maxHeartbeats 40000000 in
theorem rm9 (l : Launch) (Z : State) (a0 : Array Value) (hw : ∀ d ∈ tables_1, d.before a0 Z = true) (ws : List Jvm.Cond) (ob : Addr) (u1 : Int64) (h0 : Heap) (n0 : Nat) (Z0 : n0 ≤ h0.size) (F_slotBits : Fld Z h0 ob "quillvax/store/LongMap" "slotBits" "I" (.int (4 : Int32))) :
    MetFree l (⟨"quillvax/store/LongMap", "homeOf", "(J)I"⟩ : MethodName) (head1 (Jvm.Cond.code (⟨"quillvax/store/LongMap", "homeOf", "(J)I"⟩ : MethodName) prog_39_method_9_code 3 (some .int) :: ws) ({ frames := 0, cells := 0, slots := 0, locals := 0 } : Room)) (fun a U => a = #[(.ref ob), (.long u1)] ∧ Z.Warmed39 U.vm ∧ U.heap = h0) (fun _ _ _ _ _ => True) (fun _ U o U' => ∃ v L, o = .returned v ∧ Q9 Z ob u1 h0 n0 v U'.heap L ∧ FrameEnd U o U' L ({ frames := 0, cells := 0, slots := 0, locals := 0 } : Room).cells ({ frames := 0, cells := 0, slots := 0, locals := 0 } : Room).slots) := by
  refine MetFree.of_bodySF (plainFor_of_name own_pn2) hisR ?_
  intro p e s m args below meth c s₁ Bd hml0 hP hK
  obtain ⟨rfl, hZ, hh⟩ := hP
  have hx := Bd.exec
  have hby := Bd.bytes
  have hml : c.maxLocals = 3 := hml0
  have hown : s.vm.findClass "quillvax/store/LongMap" = some m.cls := findClass_of_methodNamed Bd.named
  have hnm := (name_of_methodNamed Bd.named Bd.method).1
  have X0 : Stand p l e ({ frames := 0, cells := 0, slots := 0, locals := 0 } : Room) s m #[(.ref ob), (.long u1)] below meth c s₁ [] 0 0 := Stand.of_body Bd
  have e0 : s₁.heap = h0 := by rw [← hh, Bd.state]; rfl
  have N0 := Fr.nil n0
  refine own_in ?_
  refine own_st (fun _ k => castTop (ef_9 m ob u1) k) ?_
  have K0 : Keep h0 h0 [] := Keep.refl h0 []
  show own_Go _ _ _ _ (s₁.setTop (mkF m 0 #[.val (.ref ob), .val (.long u1), .second] []))
  refine own_st (fun _ k => XS.lloadN X0.here hx rfl (hb hby d9_0) rfl k) ?_
  show own_Go _ _ _ _ (s₁.setTop (mkF m 1 #[.val (.ref ob), .val (.long u1), .second] [(.long u1)]))
  refine own_st (fun _ k => X0.ldc2Long hx hown (mvT hZ (hw _ (List.mem_of_getElem? (i := 47) rfl))) (g := (mkF m 1 #[.val (.ref ob), .val (.long u1), .second] [(.long u1)])) rfl (hb hby d9_1) _ k) ?_
  show own_Go _ _ _ _ (s₁.setTop (mkF m 4 #[.val (.ref ob), .val (.long u1), .second] [(.long (-7046029254386353131 : Int64)), (.long u1)]))
  refine own_st (fun _ k => XS.lmul X0.here hx rfl (hb hby d9_4) rfl k) ?_
  show own_Go _ _ _ _ (s₁.setTop (mkF m 5 #[.val (.ref ob), .val (.long u1), .second] [(.long (u1 * (-7046029254386353131 : Int64)))]))
  refine own_st (fun _ k => XS.bipush X0.here hx rfl (hb hby d9_5) k) ?_
  show own_Go _ _ _ _ (s₁.setTop (mkF m 7 #[.val (.ref ob), .val (.long u1), .second] [(.int (64 : Int32)), (.long (u1 * (-7046029254386353131 : Int64)))]))
  refine own_st (fun _ k => XS.aloadN X0.here hx rfl (hb hby d9_7) rfl rfl k) ?_
  show own_Go _ _ _ _ (s₁.setTop (mkF m 8 #[.val (.ref ob), .val (.long u1), .second] [(.ref ob), (.int (64 : Int32)), (.long (u1 * (-7046029254386353131 : Int64)))]))
  obtain ⟨T24, X24, e24, st24⟩ := getF X0 hx hZ hown (host := "") (Or.inl (hw _ (List.mem_of_getElem? (i := 32) rfl))) Via.refl e0 F_slotBits (g := (mkF m 8 #[.val (.ref ob), .val (.long u1), .second] [(.ref ob), (.int (64 : Int32)), (.long (u1 * (-7046029254386353131 : Int64)))])) rfl rfl (hb hby d9_8)
  refine own_st st24 ?_
  show own_Go _ _ _ _ (T24.setTop (mkF m 11 #[.val (.ref ob), .val (.long u1), .second] [(.int (4 : Int32)), (.int (64 : Int32)), (.long (u1 * (-7046029254386353131 : Int64)))]))
  refine own_st (fun _ k => XS.isub X24.here hx rfl (hb hby d9_11) rfl k) ?_
  show own_Go _ _ _ _ (T24.setTop (mkF m 12 #[.val (.ref ob), .val (.long u1), .second] [(.int (60 : Int32)), (.long (u1 * (-7046029254386353131 : Int64)))]))
  refine own_st (fun _ k => XS.lushr X24.here hx rfl (hb hby d9_12) rfl k) ?_
  show own_Go _ _ _ _ (T24.setTop (mkF m 13 #[.val (.ref ob), .val (.long u1), .second] [(.long (((u1 * (-7046029254386353131 : Int64)).toUInt64 >>> ((60 : Int32) &&& 0x3f).toInt64.toUInt64).toInt64))]))
  refine own_st (fun _ k => XS.l2i X24.here hx rfl (hb hby d9_13) rfl k) ?_
  show own_Go _ _ _ _ (T24.setTop (mkF m 14 #[.val (.ref ob), .val (.long u1), .second] [(.int ((((u1 * (-7046029254386353131 : Int64)).toUInt64 >>> ((60 : Int32) &&& 0x3f).toInt64.toUInt64).toInt64).toInt32))]))
  obtain ⟨fs, hr, hrun, hended, hW, hsame⟩ := X24.leave (v := some (.int ((((u1 * (-7046029254386353131 : Int64)).toUInt64 >>> ((60 : Int32) &&& 0x3f).toInt64.toUInt64).toInt64).toInt32))) (fun h => by rw [Bd.returns] at h; cases h)
  refine own_out (own_retI X24 hx Bd.returns (hb hby d9_14) hr) ⟨hrun, hended, _, _, rfl, ?_, ⟨_, rfl⟩, hW, hsame.mono (by decide) (by decide)⟩
  show Q9 Z ob u1 h0 n0 _ T24.heap _
  exact ⟨rfl, N0, e24⟩
theorem d8_0 : decode prog_39_method_6_code 0 = .ok (.aload_n 0, 1) := by decide +kernel
theorem d8_1 : decode prog_39_method_6_code 1 = .ok (.getfield 9, 3) := by decide +kernel
theorem d8_4 : decode prog_39_method_6_code 4 = .ok (.arraylength, 1) := by decide +kernel
theorem d8_5 : decode prog_39_method_6_code 5 = .ok (.iconst 1, 1) := by decide +kernel
theorem d8_6 : decode prog_39_method_6_code 6 = .ok (.isub, 1) := by decide +kernel
theorem d8_7 : decode prog_39_method_6_code 7 = .ok (.istore_n 3, 1) := by decide +kernel
theorem d8_8 : decode prog_39_method_6_code 8 = .ok (.aload_n 0, 1) := by decide +kernel
theorem d8_9 : decode prog_39_method_6_code 9 = .ok (.lload_n 1, 1) := by decide +kernel
theorem d8_10 : decode prog_39_method_6_code 10 = .ok (.invokevirtual 41, 3) := by decide +kernel
theorem d8_13 : decode prog_39_method_6_code 13 = .ok (.istore 4, 2) := by decide +kernel
theorem d8_15 : decode prog_39_method_6_code 15 = .ok (.aload_n 0, 1) := by decide +kernel
theorem d8_16 : decode prog_39_method_6_code 16 = .ok (.getfield 13, 3) := by decide +kernel
theorem d8_19 : decode prog_39_method_6_code 19 = .ok (.iload 4, 2) := by decide +kernel
theorem d8_21 : decode prog_39_method_6_code 21 = .ok (.laload, 1) := by decide +kernel
theorem d8_22 : decode prog_39_method_6_code 22 = .ok (.lconst 0, 1) := by decide +kernel
theorem d8_23 : decode prog_39_method_6_code 23 = .ok (.lcmp, 1) := by decide +kernel
theorem d8_24 : decode prog_39_method_6_code 24 = .ok (.ifCond .eq 26, 3) := by decide +kernel
theorem d8_27 : decode prog_39_method_6_code 27 = .ok (.aload_n 0, 1) := by decide +kernel
theorem d8_28 : decode prog_39_method_6_code 28 = .ok (.getfield 9, 3) := by decide +kernel
theorem d8_31 : decode prog_39_method_6_code 31 = .ok (.iload 4, 2) := by decide +kernel
theorem d8_33 : decode prog_39_method_6_code 33 = .ok (.laload, 1) := by decide +kernel
theorem d8_34 : decode prog_39_method_6_code 34 = .ok (.lload_n 1, 1) := by decide +kernel
theorem d8_35 : decode prog_39_method_6_code 35 = .ok (.lcmp, 1) := by decide +kernel
theorem d8_36 : decode prog_39_method_6_code 36 = .ok (.ifCond .eq 14, 3) := by decide +kernel
theorem d8_39 : decode prog_39_method_6_code 39 = .ok (.iload 4, 2) := by decide +kernel
theorem d8_41 : decode prog_39_method_6_code 41 = .ok (.iconst 1, 1) := by decide +kernel
theorem d8_42 : decode prog_39_method_6_code 42 = .ok (.iadd, 1) := by decide +kernel
theorem d8_43 : decode prog_39_method_6_code 43 = .ok (.iload_n 3, 1) := by decide +kernel
theorem d8_44 : decode prog_39_method_6_code 44 = .ok (.iand, 1) := by decide +kernel
theorem d8_45 : decode prog_39_method_6_code 45 = .ok (.istore 4, 2) := by decide +kernel
theorem d8_47 : decode prog_39_method_6_code 47 = .ok (.goto (-32), 3) := by decide +kernel
theorem d8_50 : decode prog_39_method_6_code 50 = .ok (.iload 4, 2) := by decide +kernel
theorem d8_52 : decode prog_39_method_6_code 52 = .ok (.ireturn, 1) := by decide +kernel
def Q8 (Z : State) (ob : Addr) (ka : Addr) (wa : Addr) (kk : ClassId) (kw : ClassId) (K : Nat → Int64) (W : Nat → Int64) (u1 : Int64) (j : Nat) (h0 : Heap) (n0 : Nat) (v : Option Value) (h : Heap) (L : List Loc) : Prop := v = some (.int (Int32.ofNat j)) ∧ Fr n0 L ∧ h = h0
theorem ef_8 (m : MethodId) (x0 : Addr) (x1 : Int64) : entryFrame m #[(.ref x0), (.long x1)] 5 = mkF m 0 #[.val (.ref x0), .val (.long x1), .second, .unset, .unset] [] := by first | (simp [entryFrame, mkF, argsToLocals, Value.category]; done) | rfl
set_option maxRecDepth 65536 in
set_option maxHeartbeats 40000000 in
theorem rm8 (l : Launch) (Z : State) (a0 : Array Value) (hw : ∀ d ∈ tables_1, d.before a0 Z = true) (ws : List Jvm.Cond) (ob : Addr) (ka : Addr) (wa : Addr) (kk : ClassId) (kw : ClassId) (K : Nat → Int64) (W : Nat → Int64) (u1 : Int64) (j : Nat) (h0 : Heap) (n0 : Nat) (Z0 : n0 ≤ h0.size) (E_ob : Exa Z h0 ob "quillvax/store/LongMap") (F_keys : Fld Z h0 ob "quillvax/store/LongMap" "keys" "[J" (.ref ka)) (F_values : Fld Z h0 ob "quillvax/store/LongMap" "values" "[J" (.ref wa)) (F_slotBits : Fld Z h0 ob "quillvax/store/LongMap" "slotBits" "I" (.int (4 : Int32))) (V_ka : Arv Z h0 ka kk .long (16 : Int32) (own_vs K) (.long (0 : Int64))) (V_wa : Arv Z h0 wa kw .long (16 : Int32) (own_vs W) (.long (0 : Int64))) (hfind : own_find K W u1 16 (own_home u1) = some j) :
    MetFree l (⟨"quillvax/store/LongMap", "slotOf", "(J)I"⟩ : MethodName) (head1 (Jvm.Cond.code (⟨"quillvax/store/LongMap", "slotOf", "(J)I"⟩ : MethodName) prog_39_method_6_code 5 (some .int) :: ws) ({ frames := 1, cells := 0, slots := 0, locals := 20 } : Room)) (fun a U => a = #[(.ref ob), (.long u1)] ∧ Z.Warmed39 U.vm ∧ U.heap = h0) (fun _ _ _ _ _ => True) (fun _ U o U' => ∃ v L, o = .returned v ∧ Q8 Z ob ka wa kk kw K W u1 j h0 n0 v U'.heap L ∧ FrameEnd U o U' L ({ frames := 1, cells := 0, slots := 0, locals := 20 } : Room).cells ({ frames := 1, cells := 0, slots := 0, locals := 20 } : Room).slots) := by
  refine MetFree.of_bodySF (plainFor_of_name own_pn2) hisR ?_
  intro p e s m args below meth c s₁ Bd hml0 hP hK
  obtain ⟨rfl, hZ, hh⟩ := hP
  have hx := Bd.exec
  have hby := Bd.bytes
  have hml : c.maxLocals = 5 := hml0
  have hown : s.vm.findClass "quillvax/store/LongMap" = some m.cls := findClass_of_methodNamed Bd.named
  have hnm := (name_of_methodNamed Bd.named Bd.method).1
  have X0 : Stand p l e ({ frames := 1, cells := 0, slots := 0, locals := 20 } : Room) s m #[(.ref ob), (.long u1)] below meth c s₁ [] 0 0 := Stand.of_body Bd
  have e0 : s₁.heap = h0 := by rw [← hh, Bd.state]; rfl
  have N0 := Fr.nil n0
  refine own_in ?_
  refine own_st (fun _ k => castTop (ef_8 m ob u1) k) ?_
  have K0 : Keep h0 h0 [] := Keep.refl h0 []
  show own_Go _ _ _ _ (s₁.setTop (mkF m 0 #[.val (.ref ob), .val (.long u1), .second, .unset, .unset] []))
  refine own_st (fun _ k => XS.aloadN X0.here hx rfl (hb hby d8_0) rfl rfl k) ?_
  show own_Go _ _ _ _ (s₁.setTop (mkF m 1 #[.val (.ref ob), .val (.long u1), .second, .unset, .unset] [(.ref ob)]))
  obtain ⟨T25, X25, e25, st25⟩ := getF X0 hx hZ hown (host := "") (Or.inl (hw _ (List.mem_of_getElem? (i := 23) rfl))) Via.refl e0 F_keys (g := (mkF m 1 #[.val (.ref ob), .val (.long u1), .second, .unset, .unset] [(.ref ob)])) rfl rfl (hb hby d8_1)
  refine own_st st25 ?_
  show own_Go _ _ _ _ (T25.setTop (mkF m 4 #[.val (.ref ob), .val (.long u1), .second, .unset, .unset] [(.ref ka)]))
  obtain ⟨cl26, Ar26, -, Sz26, Nn26, -, -⟩ := id V_ka
  refine own_st (X25.arraylength hx (by rw [e25]; exact Ar26.1) (State.isArrayOf_alike hZ.alike Ar26.2.1) (g := (mkF m 4 #[.val (.ref ob), .val (.long u1), .second, .unset, .unset] [(.ref ka)])) rfl rfl (hb hby d8_4)) ?_
  rw [len_of Sz26 Nn26]
  show own_Go _ _ _ _ (T25.setTop (mkF m 5 #[.val (.ref ob), .val (.long u1), .second, .unset, .unset] [(.int (16 : Int32))]))
  refine own_st (fun _ k => XS.iconst X25.here hx rfl (hb hby d8_5) k) ?_
  show own_Go _ _ _ _ (T25.setTop (mkF m 6 #[.val (.ref ob), .val (.long u1), .second, .unset, .unset] [(.int (1 : Int32)), (.int (16 : Int32))]))
  refine own_st (fun _ k => XS.isub X25.here hx rfl (hb hby d8_6) rfl k) ?_
  show own_Go _ _ _ _ (T25.setTop (mkF m 7 #[.val (.ref ob), .val (.long u1), .second, .unset, .unset] [(.int (15 : Int32))]))
  refine own_st (fun _ k => XS.istoreN X25.here hx rfl (hb hby d8_7) rfl (l' := #[.val (.ref ob), .val (.long u1), .second, .val (.int (15 : Int32)), .unset]) rfl k) ?_
  show own_Go _ _ _ _ (T25.setTop (mkF m 8 #[.val (.ref ob), .val (.long u1), .second, .val (.int (15 : Int32)), .unset] []))
  refine own_st (fun _ k => XS.aloadN X25.here hx rfl (hb hby d8_8) rfl rfl k) ?_
  show own_Go _ _ _ _ (T25.setTop (mkF m 9 #[.val (.ref ob), .val (.long u1), .second, .val (.int (15 : Int32)), .unset] [(.ref ob)]))
  refine own_st (fun _ k => XS.lloadN X25.here hx rfl (hb hby d8_9) rfl k) ?_
  show own_Go _ _ _ _ (T25.setTop (mkF m 10 #[.val (.ref ob), .val (.long u1), .second, .val (.int (15 : Int32)), .unset] [(.long u1), (.ref ob)]))
  obtain ⟨cq27, q27, q27'⟩ := E_ob.cell
  obtain ⟨_, _, ⟨T27, L27, k27, n27⟩, -, X27, ⟨Lc27, hQ27, l27, y27, z27⟩, st27⟩ := X25.privateBack hx (y := (⟨"quillvax/store/LongMap", "homeOf", "(J)I"⟩ : MethodName)) hown (mvT hZ (hw _ (List.mem_of_getElem? (i := 43) rfl))) (mvT hZ (hw _ (List.mem_of_getElem? (i := 44) rfl))) (own_sel (C := "quillvax/store/LongMap") (r := (⟨"quillvax/store/LongMap", "remove", "(J)J"⟩ : MethodName)) rfl (mvT hZ (hw _ (List.mem_of_getElem? (i := 37) rfl))) (Cond.privateMethod_at (mvP hZ (hw _ (List.mem_of_getElem? (i := 45) rfl)) (args := #[]))) (mvT hZ (hw _ (List.mem_of_getElem? (i := 44) rfl))) (by decide)) (Cond.privateMethod_at (mvP hZ (hw _ (List.mem_of_getElem? (i := 45) rfl)) (args := #[]))) (mvT hZ (hw _ (List.mem_of_getElem? (i := 46) rfl))) (by decide) (backOf (W := 0) (rm9 l Z a0 hw [] ob u1 h0 n0 Z0 F_slotBits) hZ (hw _ (List.mem_of_getElem? (i := 46) rfl)) (hw _ (List.mem_of_getElem? (i := 16) rfl)) (by decide) (by decide)) (g := (mkF m 10 #[.val (.ref ob), .val (.long u1), .second, .val (.int (15 : Int32)), .unset] [(.long u1), (.ref ob)])) rfl (by rw [hml]; rfl) (Steps.refl _) (a := ob) (by rw [e25]; exact q27) q27' (argsL := [(.long u1)]) (rest := []) (lenOf own_pd5 rfl) rfl (by show 2 * 0 + _ ≤ _; exact Nat.le_of_eq rfl) (hb hby d8_10) (fun _ _ => ⟨rfl, e25, (by decide : 0 + 0 ≤ _), (by decide : 0 + 0 ≤ _)⟩)
  dsimp only [Pt.U, Pt.locs, Pt.cells, Pt.slots] at X27 l27 y27 z27 st27 hQ27
  rw [l27, y27, z27] at X27
  obtain ⟨rfl, Nq27, eq27⟩ := hQ27
  have N27 := Fr.app N0 Nq27
  refine own_tr st27 ?_
  rw [own_hoN u1]
  show own_Go _ _ _ _ (T27.setTop (mkF m 13 #[.val (.ref ob), .val (.long u1), .second, .val (.int (15 : Int32)), .unset] [(.int (Int32.ofNat (own_home u1)))]))
  refine own_st (fun _ k => XS.istore X27.here hx rfl (hb hby d8_13) rfl (l' := #[.val (.ref ob), .val (.long u1), .second, .val (.int (15 : Int32)), .val (.int (Int32.ofNat (own_home u1)))]) rfl k) ?_
  show own_Go _ _ _ _ (T27.setTop (mkF m 15 #[.val (.ref ob), .val (.long u1), .second, .val (.int (15 : Int32)), .val (.int (Int32.ofNat (own_home u1)))] []))
  have LP : ∀ (f i : Nat) (P : State → Outcome → Prop) (TL : State) (lcs : List Loc) (cs ss : Nat), i < 16 → own_find K W u1 f i = some j → Stand p l e ({ frames := 1, cells := 0, slots := 0, locals := 20 } : Room) s m #[(.ref ob), (.long u1)] below meth c TL lcs cs ss → TL.heap = h0 → (∀ TM, Stand p l e ({ frames := 1, cells := 0, slots := 0, locals := 20 } : Room) s m #[(.ref ob), (.long u1)] below meth c TM lcs cs ss → TM.heap = h0 → own_Go p.tables e below P (TM.setTop (mkF m 50 #[.val (.ref ob), .val (.long u1), .second, .val (.int (15 : Int32)), .val (.int (Int32.ofNat j))] []))) → own_Go p.tables e below P (TL.setTop (mkF m 15 #[.val (.ref ob), .val (.long u1), .second, .val (.int (15 : Int32)), .val (.int (Int32.ofNat i))] [])) := by
    intro f
    induction f with
    | zero => intro i P TL lcs cs ss hi hf; simp [own_find] at hf
    | succ f ih =>
      intro i P TL lcs cs ss hi hf XL eL hG
      show own_Go _ _ _ _ (TL.setTop (mkF m 15 #[.val (.ref ob), .val (.long u1), .second, .val (.int (15 : Int32)), .val (.int (Int32.ofNat i))] []))
      refine own_st (fun _ k => XS.aloadN XL.here hx rfl (hb hby d8_15) rfl rfl k) ?_
      show own_Go _ _ _ _ (TL.setTop (mkF m 16 #[.val (.ref ob), .val (.long u1), .second, .val (.int (15 : Int32)), .val (.int (Int32.ofNat i))] [(.ref ob)]))
      obtain ⟨T28, X28, e28, st28⟩ := getF XL hx hZ hown (host := "") (Or.inl (hw _ (List.mem_of_getElem? (i := 25) rfl))) Via.refl eL F_values (g := (mkF m 16 #[.val (.ref ob), .val (.long u1), .second, .val (.int (15 : Int32)), .val (.int (Int32.ofNat i))] [(.ref ob)])) rfl rfl (hb hby d8_16)
      refine own_st st28 ?_
      show own_Go _ _ _ _ (T28.setTop (mkF m 19 #[.val (.ref ob), .val (.long u1), .second, .val (.int (15 : Int32)), .val (.int (Int32.ofNat i))] [(.ref wa)]))
      refine own_st (fun _ k => XS.iload X28.here hx rfl (hb hby d8_19) rfl k) ?_
      show own_Go _ _ _ _ (T28.setTop (mkF m 21 #[.val (.ref ob), .val (.long u1), .second, .val (.int (15 : Int32)), .val (.int (Int32.ofNat i))] [(.int (Int32.ofNat i)), (.ref wa)]))
      obtain ⟨cl29, Ar29, -, Sz29, Nn29, Hs29, -⟩ := id V_wa
      have hin29 : ¬ ((Int32.ofNat i) < 0 ∨ cl29.slots.size ≤ ((Int32.ofNat i)).toNatClampNeg) := inb_of Sz29 ⟨(own_ofN i hi).2.1, (own_ofN i hi).2.2⟩
      have hat29 : cl29.slots[((Int32.ofNat i)).toNatClampNeg]? = some (.long (W i)) := Hs29.at hin29 (by rw [(own_ofN i hi).1]; exact own_vs_get _ _ hi)
      refine own_st (X28.laload hx (j := (Int32.ofNat i)) (v := (.long (W i))) (by rw [e28]; exact Ar29.1) (State.isArrayOf_alike hZ.alike Ar29.2.1) Ar29.2.2 hin29 hat29 (g := (mkF m 21 #[.val (.ref ob), .val (.long u1), .second, .val (.int (15 : Int32)), .val (.int (Int32.ofNat i))] [(.int (Int32.ofNat i)), (.ref wa)])) rfl rfl (hb hby d8_21)) ?_
      show own_Go _ _ _ _ (T28.setTop (mkF m 22 #[.val (.ref ob), .val (.long u1), .second, .val (.int (15 : Int32)), .val (.int (Int32.ofNat i))] [(.long (W i))]))
      refine own_st (fun _ k => XS.lconst X28.here hx rfl (hb hby d8_22) k) ?_
      show own_Go _ _ _ _ (T28.setTop (mkF m 23 #[.val (.ref ob), .val (.long u1), .second, .val (.int (15 : Int32)), .val (.int (Int32.ofNat i))] [(.long (0 : Int64)), (.long (W i))]))
      refine own_st (fun _ k => XS.lcmp X28.here hx rfl (hb hby d8_23) rfl k) ?_
      show own_Go _ _ _ _ (T28.setTop (mkF m 24 #[.val (.ref ob), .val (.long u1), .second, .val (.int (15 : Int32)), .val (.int (Int32.ofNat i))] [(.int (lcmpW (W i) (0 : Int64)))]))
      by_cases hc30 : (lcmpW (W i) (0 : Int64)) = (0 : Int32)
      · skip
        refine own_st (fun _ k => XS.ifYes X28.here hx rfl (pc0 := 24) (pc' := 50) rfl (hb hby d8_24) rfl ((if0 _ _).trans (teq hc30).1) (by decide) (by decide) k) ?_
        show own_Go _ _ _ _ (T28.setTop (mkF m 50 #[.val (.ref ob), .val (.long u1), .second, .val (.int (15 : Int32)), .val (.int (Int32.ofNat i))] []))
        have hji : i = j := by
          unfold own_find at hf
          rw [if_pos ((lw_eq _ _).mp hc30)] at hf
          exact Option.some.inj hf
        rw [hji]
        exact hG _ X28 e28
      · skip
        refine own_st (fun _ k => XS.ifNo X28.here hx rfl (hb hby d8_24) rfl ((if0 _ _).trans (feq hc30).1) k) ?_
        show own_Go _ _ _ _ (T28.setTop (mkF m 27 #[.val (.ref ob), .val (.long u1), .second, .val (.int (15 : Int32)), .val (.int (Int32.ofNat i))] []))
        refine own_st (fun _ k => XS.aloadN X28.here hx rfl (hb hby d8_27) rfl rfl k) ?_
        show own_Go _ _ _ _ (T28.setTop (mkF m 28 #[.val (.ref ob), .val (.long u1), .second, .val (.int (15 : Int32)), .val (.int (Int32.ofNat i))] [(.ref ob)]))
        obtain ⟨T31, X31, e31, st31⟩ := getF X28 hx hZ hown (host := "") (Or.inl (hw _ (List.mem_of_getElem? (i := 23) rfl))) Via.refl e28 F_keys (g := (mkF m 28 #[.val (.ref ob), .val (.long u1), .second, .val (.int (15 : Int32)), .val (.int (Int32.ofNat i))] [(.ref ob)])) rfl rfl (hb hby d8_28)
        refine own_st st31 ?_
        show own_Go _ _ _ _ (T31.setTop (mkF m 31 #[.val (.ref ob), .val (.long u1), .second, .val (.int (15 : Int32)), .val (.int (Int32.ofNat i))] [(.ref ka)]))
        refine own_st (fun _ k => XS.iload X31.here hx rfl (hb hby d8_31) rfl k) ?_
        show own_Go _ _ _ _ (T31.setTop (mkF m 33 #[.val (.ref ob), .val (.long u1), .second, .val (.int (15 : Int32)), .val (.int (Int32.ofNat i))] [(.int (Int32.ofNat i)), (.ref ka)]))
        obtain ⟨cl32, Ar32, -, Sz32, Nn32, Hs32, -⟩ := id V_ka
        have hin32 : ¬ ((Int32.ofNat i) < 0 ∨ cl32.slots.size ≤ ((Int32.ofNat i)).toNatClampNeg) := inb_of Sz32 ⟨(own_ofN i hi).2.1, (own_ofN i hi).2.2⟩
        have hat32 : cl32.slots[((Int32.ofNat i)).toNatClampNeg]? = some (.long (K i)) := Hs32.at hin32 (by rw [(own_ofN i hi).1]; exact own_vs_get _ _ hi)
        refine own_st (X31.laload hx (j := (Int32.ofNat i)) (v := (.long (K i))) (by rw [e31]; exact Ar32.1) (State.isArrayOf_alike hZ.alike Ar32.2.1) Ar32.2.2 hin32 hat32 (g := (mkF m 33 #[.val (.ref ob), .val (.long u1), .second, .val (.int (15 : Int32)), .val (.int (Int32.ofNat i))] [(.int (Int32.ofNat i)), (.ref ka)])) rfl rfl (hb hby d8_33)) ?_
        show own_Go _ _ _ _ (T31.setTop (mkF m 34 #[.val (.ref ob), .val (.long u1), .second, .val (.int (15 : Int32)), .val (.int (Int32.ofNat i))] [(.long (K i))]))
        refine own_st (fun _ k => XS.lloadN X31.here hx rfl (hb hby d8_34) rfl k) ?_
        show own_Go _ _ _ _ (T31.setTop (mkF m 35 #[.val (.ref ob), .val (.long u1), .second, .val (.int (15 : Int32)), .val (.int (Int32.ofNat i))] [(.long u1), (.long (K i))]))
        refine own_st (fun _ k => XS.lcmp X31.here hx rfl (hb hby d8_35) rfl k) ?_
        show own_Go _ _ _ _ (T31.setTop (mkF m 36 #[.val (.ref ob), .val (.long u1), .second, .val (.int (15 : Int32)), .val (.int (Int32.ofNat i))] [(.int (lcmpW (K i) u1))]))
        by_cases hc33 : (lcmpW (K i) u1) = (0 : Int32)
        · skip
          refine own_st (fun _ k => XS.ifYes X31.here hx rfl (pc0 := 36) (pc' := 50) rfl (hb hby d8_36) rfl ((if0 _ _).trans (teq hc33).1) (by decide) (by decide) k) ?_
          show own_Go _ _ _ _ (T31.setTop (mkF m 50 #[.val (.ref ob), .val (.long u1), .second, .val (.int (15 : Int32)), .val (.int (Int32.ofNat i))] []))
          have hji : i = j := by
            unfold own_find at hf
            rw [if_neg (fun q => hc30 ((lw_eq _ _).mpr q)), if_pos ((lw_eq _ _).mp hc33)] at hf
            exact Option.some.inj hf
          rw [hji]
          exact hG _ X31 e31
        · skip
          refine own_st (fun _ k => XS.ifNo X31.here hx rfl (hb hby d8_36) rfl ((if0 _ _).trans (feq hc33).1) k) ?_
          show own_Go _ _ _ _ (T31.setTop (mkF m 39 #[.val (.ref ob), .val (.long u1), .second, .val (.int (15 : Int32)), .val (.int (Int32.ofNat i))] []))
          refine own_st (fun _ k => XS.iload X31.here hx rfl (hb hby d8_39) rfl k) ?_
          show own_Go _ _ _ _ (T31.setTop (mkF m 41 #[.val (.ref ob), .val (.long u1), .second, .val (.int (15 : Int32)), .val (.int (Int32.ofNat i))] [(.int (Int32.ofNat i))]))
          refine own_st (fun _ k => XS.iconst X31.here hx rfl (hb hby d8_41) k) ?_
          show own_Go _ _ _ _ (T31.setTop (mkF m 42 #[.val (.ref ob), .val (.long u1), .second, .val (.int (15 : Int32)), .val (.int (Int32.ofNat i))] [(.int (1 : Int32)), (.int (Int32.ofNat i))]))
          refine own_st (fun _ k => XS.iadd X31.here hx rfl (hb hby d8_42) rfl k) ?_
          show own_Go _ _ _ _ (T31.setTop (mkF m 43 #[.val (.ref ob), .val (.long u1), .second, .val (.int (15 : Int32)), .val (.int (Int32.ofNat i))] [(.int ((Int32.ofNat i) + (1 : Int32)))]))
          refine own_st (fun _ k => XS.iloadN X31.here hx rfl (hb hby d8_43) rfl k) ?_
          show own_Go _ _ _ _ (T31.setTop (mkF m 44 #[.val (.ref ob), .val (.long u1), .second, .val (.int (15 : Int32)), .val (.int (Int32.ofNat i))] [(.int (15 : Int32)), (.int ((Int32.ofNat i) + (1 : Int32)))]))
          refine own_st (fun _ k => XS.iand X31.here hx rfl (hb hby d8_44) rfl k) ?_
          rw [own_nxt i hi]
          show own_Go _ _ _ _ (T31.setTop (mkF m 45 #[.val (.ref ob), .val (.long u1), .second, .val (.int (15 : Int32)), .val (.int (Int32.ofNat i))] [(.int (Int32.ofNat ((i + 1) % 16)))]))
          refine own_st (fun _ k => XS.istore X31.here hx rfl (hb hby d8_45) rfl (l' := #[.val (.ref ob), .val (.long u1), .second, .val (.int (15 : Int32)), .val (.int (Int32.ofNat ((i + 1) % 16)))]) rfl k) ?_
          show own_Go _ _ _ _ (T31.setTop (mkF m 47 #[.val (.ref ob), .val (.long u1), .second, .val (.int (15 : Int32)), .val (.int (Int32.ofNat ((i + 1) % 16)))] []))
          refine own_st (fun _ k => XS.goto X31.here hx rfl (pc0 := 47) (pc' := 15) rfl (hb hby d8_47) (by decide) (by decide) k) ?_
          show own_Go _ _ _ _ (T31.setTop (mkF m 15 #[.val (.ref ob), .val (.long u1), .second, .val (.int (15 : Int32)), .val (.int (Int32.ofNat ((i + 1) % 16)))] []))
          unfold own_find at hf
          rw [if_neg (fun q => hc30 ((lw_eq _ _).mpr q)), if_neg (fun q => hc33 ((lw_eq _ _).mpr q))] at hf
          exact ih _ _ _ _ _ _ (own_m16 _) hf X31 e31 hG
  refine LP 16 _ _ _ _ _ _ (own_hom16 u1) hfind X27 eq27 ?_
  intro TZ XZ eZ
  show own_Go _ _ _ _ (TZ.setTop (mkF m 50 #[.val (.ref ob), .val (.long u1), .second, .val (.int (15 : Int32)), .val (.int (Int32.ofNat j))] []))
  refine own_st (fun _ k => XS.iload XZ.here hx rfl (hb hby d8_50) rfl k) ?_
  show own_Go _ _ _ _ (TZ.setTop (mkF m 52 #[.val (.ref ob), .val (.long u1), .second, .val (.int (15 : Int32)), .val (.int (Int32.ofNat j))] [(.int (Int32.ofNat j))]))
  obtain ⟨fs, hr, hrun, hended, hW, hsame⟩ := XZ.leave (v := some (.int (Int32.ofNat j))) (fun h => by rw [Bd.returns] at h; cases h)
  refine own_out (own_retI XZ hx Bd.returns (hb hby d8_52) hr) ⟨hrun, hended, _, _, rfl, ?_, ⟨_, rfl⟩, hW, hsame.mono (by decide) (by decide)⟩
  show Q8 Z ob ka wa kk kw K W u1 j h0 n0 _ TZ.heap _
  exact ⟨rfl, N27, eZ⟩
theorem d10_0 : decode prog_39_method_2_code 0 = .ok (.aload_n 0, 1) := by decide +kernel
theorem d10_1 : decode prog_39_method_2_code 1 = .ok (.getfield 13, 3) := by decide +kernel
theorem d10_4 : decode prog_39_method_2_code 4 = .ok (.aload_n 0, 1) := by decide +kernel
theorem d10_5 : decode prog_39_method_2_code 5 = .ok (.lload_n 1, 1) := by decide +kernel
theorem d10_6 : decode prog_39_method_2_code 6 = .ok (.invokevirtual 26, 3) := by decide +kernel
theorem d10_9 : decode prog_39_method_2_code 9 = .ok (.laload, 1) := by decide +kernel
theorem d10_10 : decode prog_39_method_2_code 10 = .ok (.lreturn, 1) := by decide +kernel
def Q10 (Z : State) (ob : Addr) (ka : Addr) (wa : Addr) (kk : ClassId) (kw : ClassId) (K : Nat → Int64) (W : Nat → Int64) (u1 : Int64) (j : Nat) (h0 : Heap) (n0 : Nat) (v : Option Value) (h : Heap) (L : List Loc) : Prop := v = some (.long (W j)) ∧ Fr n0 L ∧ h = h0
theorem ef_10 (m : MethodId) (x0 : Addr) (x1 : Int64) : entryFrame m #[(.ref x0), (.long x1)] 3 = mkF m 0 #[.val (.ref x0), .val (.long x1), .second] [] := by first | (simp [entryFrame, mkF, argsToLocals, Value.category]; done) | rfl
set_option maxRecDepth 65536 in
set_option maxHeartbeats 40000000 in
theorem rm10 (l : Launch) (Z : State) (a0 : Array Value) (hw : ∀ d ∈ tables_1, d.before a0 Z = true) (ws : List Jvm.Cond) (ob : Addr) (ka : Addr) (wa : Addr) (kk : ClassId) (kw : ClassId) (K : Nat → Int64) (W : Nat → Int64) (u1 : Int64) (j : Nat) (h0 : Heap) (n0 : Nat) (Z0 : n0 ≤ h0.size) (E_ob : Exa Z h0 ob "quillvax/store/LongMap") (F_keys : Fld Z h0 ob "quillvax/store/LongMap" "keys" "[J" (.ref ka)) (F_values : Fld Z h0 ob "quillvax/store/LongMap" "values" "[J" (.ref wa)) (F_slotBits : Fld Z h0 ob "quillvax/store/LongMap" "slotBits" "I" (.int (4 : Int32))) (V_ka : Arv Z h0 ka kk .long (16 : Int32) (own_vs K) (.long (0 : Int64))) (V_wa : Arv Z h0 wa kw .long (16 : Int32) (own_vs W) (.long (0 : Int64))) (hfind : own_find K W u1 16 (own_home u1) = some j) :
    MetFree l (⟨"quillvax/store/LongMap", "get", "(J)J"⟩ : MethodName) (head1 (Jvm.Cond.code (⟨"quillvax/store/LongMap", "get", "(J)J"⟩ : MethodName) prog_39_method_2_code 3 (some .long) :: ws) ({ frames := 2, cells := 0, slots := 0, locals := 40 } : Room)) (fun a U => a = #[(.ref ob), (.long u1)] ∧ Z.Warmed39 U.vm ∧ U.heap = h0) (fun _ _ _ _ _ => True) (fun _ U o U' => ∃ v L, o = .returned v ∧ Q10 Z ob ka wa kk kw K W u1 j h0 n0 v U'.heap L ∧ FrameEnd U o U' L ({ frames := 2, cells := 0, slots := 0, locals := 40 } : Room).cells ({ frames := 2, cells := 0, slots := 0, locals := 40 } : Room).slots) := by
  refine MetFree.of_bodySF (plainFor_of_name own_pn2) hisR ?_
  intro p e s m args below meth c s₁ Bd hml0 hP hK
  obtain ⟨rfl, hZ, hh⟩ := hP
  have hx := Bd.exec
  have hby := Bd.bytes
  have hml : c.maxLocals = 3 := hml0
  have hown : s.vm.findClass "quillvax/store/LongMap" = some m.cls := findClass_of_methodNamed Bd.named
  have hnm := (name_of_methodNamed Bd.named Bd.method).1
  have X0 : Stand p l e ({ frames := 2, cells := 0, slots := 0, locals := 40 } : Room) s m #[(.ref ob), (.long u1)] below meth c s₁ [] 0 0 := Stand.of_body Bd
  have e0 : s₁.heap = h0 := by rw [← hh, Bd.state]; rfl
  have N0 := Fr.nil n0
  refine own_in ?_
  refine own_st (fun _ k => castTop (ef_10 m ob u1) k) ?_
  have hj : j < 16 := own_find_lt K W u1 16 _ j (own_hom16 u1) hfind
  have K0 : Keep h0 h0 [] := Keep.refl h0 []
  show own_Go _ _ _ _ (s₁.setTop (mkF m 0 #[.val (.ref ob), .val (.long u1), .second] []))
  refine own_st (fun _ k => XS.aloadN X0.here hx rfl (hb hby d10_0) rfl rfl k) ?_
  show own_Go _ _ _ _ (s₁.setTop (mkF m 1 #[.val (.ref ob), .val (.long u1), .second] [(.ref ob)]))
  obtain ⟨T34, X34, e34, st34⟩ := getF X0 hx hZ hown (host := "") (Or.inl (hw _ (List.mem_of_getElem? (i := 25) rfl))) Via.refl e0 F_values (g := (mkF m 1 #[.val (.ref ob), .val (.long u1), .second] [(.ref ob)])) rfl rfl (hb hby d10_1)
  refine own_st st34 ?_
  show own_Go _ _ _ _ (T34.setTop (mkF m 4 #[.val (.ref ob), .val (.long u1), .second] [(.ref wa)]))
  refine own_st (fun _ k => XS.aloadN X34.here hx rfl (hb hby d10_4) rfl rfl k) ?_
  show own_Go _ _ _ _ (T34.setTop (mkF m 5 #[.val (.ref ob), .val (.long u1), .second] [(.ref ob), (.ref wa)]))
  refine own_st (fun _ k => XS.lloadN X34.here hx rfl (hb hby d10_5) rfl k) ?_
  show own_Go _ _ _ _ (T34.setTop (mkF m 6 #[.val (.ref ob), .val (.long u1), .second] [(.long u1), (.ref ob), (.ref wa)]))
  obtain ⟨cq35, q35, q35'⟩ := E_ob.cell
  obtain ⟨_, _, ⟨T35, L35, k35, n35⟩, -, X35, ⟨Lc35, hQ35, l35, y35, z35⟩, st35⟩ := X34.privateBack hx (y := (⟨"quillvax/store/LongMap", "slotOf", "(J)I"⟩ : MethodName)) hown (mvT hZ (hw _ (List.mem_of_getElem? (i := 39) rfl))) (mvT hZ (hw _ (List.mem_of_getElem? (i := 40) rfl))) (own_sel (C := "quillvax/store/LongMap") (r := (⟨"quillvax/store/LongMap", "remove", "(J)J"⟩ : MethodName)) rfl (mvT hZ (hw _ (List.mem_of_getElem? (i := 37) rfl))) (Cond.privateMethod_at (mvP hZ (hw _ (List.mem_of_getElem? (i := 41) rfl)) (args := #[]))) (mvT hZ (hw _ (List.mem_of_getElem? (i := 40) rfl))) (by decide)) (Cond.privateMethod_at (mvP hZ (hw _ (List.mem_of_getElem? (i := 41) rfl)) (args := #[]))) (mvT hZ (hw _ (List.mem_of_getElem? (i := 42) rfl))) (by decide) (backOf (W := 1) (rm8 l Z a0 hw [] ob ka wa kk kw K W u1 j h0 n0 Z0 E_ob F_keys F_values F_slotBits V_ka V_wa hfind) hZ (hw _ (List.mem_of_getElem? (i := 42) rfl)) (hw _ (List.mem_of_getElem? (i := 16) rfl)) (by decide) (by decide)) (g := (mkF m 6 #[.val (.ref ob), .val (.long u1), .second] [(.long u1), (.ref ob), (.ref wa)])) rfl (by rw [hml]; rfl) (Steps.refl _) (a := ob) (by rw [e34]; exact q35) q35' (argsL := [(.long u1)]) (rest := [(.ref wa)]) (lenOf own_pd5 rfl) rfl (by show 2 * 0 + _ ≤ _; exact Nat.le_of_eq rfl) (hb hby d10_6) (fun _ _ => ⟨rfl, e34, (by decide : 0 + 0 ≤ _), (by decide : 0 + 0 ≤ _)⟩)
  dsimp only [Pt.U, Pt.locs, Pt.cells, Pt.slots] at X35 l35 y35 z35 st35 hQ35
  rw [l35, y35, z35] at X35
  obtain ⟨rfl, Nq35, eq35⟩ := hQ35
  have N35 := Fr.app N0 Nq35
  refine own_tr st35 ?_
  show own_Go _ _ _ _ (T35.setTop (mkF m 9 #[.val (.ref ob), .val (.long u1), .second] [(.int (Int32.ofNat j)), (.ref wa)]))
  obtain ⟨cl36, Ar36, -, Sz36, Nn36, Hs36, -⟩ := id V_wa
  have hin36 : ¬ ((Int32.ofNat j) < 0 ∨ cl36.slots.size ≤ ((Int32.ofNat j)).toNatClampNeg) := inb_of Sz36 ⟨(own_ofN j hj).2.1, (own_ofN j hj).2.2⟩
  have hat36 : cl36.slots[((Int32.ofNat j)).toNatClampNeg]? = some (.long (W j)) := Hs36.at hin36 (by rw [(own_ofN j hj).1]; exact own_vs_get _ _ hj)
  refine own_st (X35.laload hx (j := (Int32.ofNat j)) (v := (.long (W j))) (by rw [eq35]; exact Ar36.1) (State.isArrayOf_alike hZ.alike Ar36.2.1) Ar36.2.2 hin36 hat36 (g := (mkF m 9 #[.val (.ref ob), .val (.long u1), .second] [(.int (Int32.ofNat j)), (.ref wa)])) rfl rfl (hb hby d10_9)) ?_
  show own_Go _ _ _ _ (T35.setTop (mkF m 10 #[.val (.ref ob), .val (.long u1), .second] [(.long (W j))]))
  obtain ⟨fs, hr, hrun, hended, hW, hsame⟩ := X35.leave (v := some (.long (W j))) (fun h => by rw [Bd.returns] at h; cases h)
  refine own_out (X35.lreturnOut hx Bd.returns (hb hby d10_10) hr) ⟨hrun, hended, _, _, rfl, ?_, ⟨_, rfl⟩, hW, hsame.mono (by decide) (by decide)⟩
  show Q10 Z ob ka wa kk kw K W u1 j h0 n0 _ T35.heap _
  exact ⟨rfl, N35, eq35⟩
theorem d12_0 : decode prog_39_method_10_code 0 = .ok (.lload_n 0, 1) := by decide +kernel
theorem d12_1 : decode prog_39_method_10_code 1 = .ok (.lconst 0, 1) := by decide +kernel
theorem d12_2 : decode prog_39_method_10_code 2 = .ok (.lcmp, 1) := by decide +kernel
theorem d12_3 : decode prog_39_method_10_code 3 = .ok (.ifCond .ne 13, 3) := by decide +kernel
theorem d12_6 : decode prog_39_method_10_code 6 = .ok (.new 59, 3) := by decide +kernel
theorem d12_9 : decode prog_39_method_10_code 9 = .ok (.dup, 1) := by decide +kernel
theorem d12_10 : decode prog_39_method_10_code 10 = .ok (.ldc 61, 2) := by decide +kernel
theorem d12_12 : decode prog_39_method_10_code 12 = .ok (.invokespecial 63, 3) := by decide +kernel
theorem d12_15 : decode prog_39_method_10_code 15 = .ok (.athrow, 1) := by decide +kernel
theorem d12_16 : decode prog_39_method_10_code 16 = .ok (.return_, 1) := by decide +kernel
theorem own_pd6 : parseMethodDescriptor "(J)V" = some ⟨[.long], none⟩ := by decide +kernel
def Q12 (Z : State) (u0 : Int64) (h0 : Heap) (n0 : Nat) (v : Option Value) (h : Heap) (L : List Loc) : Prop := v = none ∧ Fr n0 L ∧ h = h0
theorem ef_12 (m : MethodId) (x0 : Int64) : entryFrame m #[(.long x0)] 2 = mkF m 0 #[.val (.long x0), .second] [] := by first | (simp [entryFrame, mkF, argsToLocals, Value.category]; done) | rfl
set_option maxRecDepth 65536 in
set_option maxHeartbeats 40000000 in
theorem rm12 (l : Launch) (Z : State) (a0 : Array Value) (hw : ∀ d ∈ tables_1, d.before a0 Z = true) (ws : List Jvm.Cond) (u0 : Int64) (h0 : Heap) (n0 : Nat) (Z0 : n0 ≤ h0.size) (hp : ¬ (lcmpW u0 (0 : Int64)) = (0 : Int32)) :
    MetFree l (⟨"quillvax/store/LongMap", "checkValue", "(J)V"⟩ : MethodName) (head1 (Jvm.Cond.code (⟨"quillvax/store/LongMap", "checkValue", "(J)V"⟩ : MethodName) prog_39_method_10_code 2 none :: ws) ({ frames := 0, cells := 0, slots := 0, locals := 0 } : Room)) (fun a U => a = #[(.long u0)] ∧ Z.Warmed39 U.vm ∧ U.heap = h0) (fun _ _ _ _ _ => True) (fun _ U o U' => ∃ v L, o = .returned v ∧ Q12 Z u0 h0 n0 v U'.heap L ∧ FrameEnd U o U' L ({ frames := 0, cells := 0, slots := 0, locals := 0 } : Room).cells ({ frames := 0, cells := 0, slots := 0, locals := 0 } : Room).slots) := by
  refine MetFree.of_bodySF (plainFor_of_name own_pn2) hisR ?_
  intro p e s m args below meth c s₁ Bd hml0 hP hK
  obtain ⟨rfl, hZ, hh⟩ := hP
  have hx := Bd.exec
  have hby := Bd.bytes
  have hml : c.maxLocals = 2 := hml0
  have hown : s.vm.findClass "quillvax/store/LongMap" = some m.cls := findClass_of_methodNamed Bd.named
  have hnm := (name_of_methodNamed Bd.named Bd.method).1
  have X0 : Stand p l e ({ frames := 0, cells := 0, slots := 0, locals := 0 } : Room) s m #[(.long u0)] below meth c s₁ [] 0 0 := Stand.of_body Bd
  have e0 : s₁.heap = h0 := by rw [← hh, Bd.state]; rfl
  have N0 := Fr.nil n0
  refine own_in ?_
  refine own_st (fun _ k => castTop (ef_12 m u0) k) ?_
  have K0 : Keep h0 h0 [] := Keep.refl h0 []
  show own_Go _ _ _ _ (s₁.setTop (mkF m 0 #[.val (.long u0), .second] []))
  refine own_st (fun _ k => XS.lloadN X0.here hx rfl (hb hby d12_0) rfl k) ?_
  show own_Go _ _ _ _ (s₁.setTop (mkF m 1 #[.val (.long u0), .second] [(.long u0)]))
  refine own_st (fun _ k => XS.lconst X0.here hx rfl (hb hby d12_1) k) ?_
  show own_Go _ _ _ _ (s₁.setTop (mkF m 2 #[.val (.long u0), .second] [(.long (0 : Int64)), (.long u0)]))
  refine own_st (fun _ k => XS.lcmp X0.here hx rfl (hb hby d12_2) rfl k) ?_
  show own_Go _ _ _ _ (s₁.setTop (mkF m 3 #[.val (.long u0), .second] [(.int (lcmpW u0 (0 : Int64)))]))
  refine own_st (fun _ k => XS.ifYes X0.here hx rfl (pc0 := 3) (pc' := 16) rfl (hb hby d12_3) rfl ((if0 _ _).trans (feq (hp)).2) (by decide) (by decide) k) ?_
  show own_Go _ _ _ _ (s₁.setTop (mkF m 16 #[.val (.long u0), .second] []))
  obtain ⟨fs, hr, hrun, hended, hW, hsame⟩ := X0.leave (v := none) (fun _ => rfl)
  refine own_out (X0.returnOut hx Bd.returns (hb hby d12_16) hr) ⟨hrun, hended, _, _, rfl, ?_, ⟨_, rfl⟩, hW, hsame.mono (by decide) (by decide)⟩
  show Q12 Z u0 h0 n0 _ s₁.heap _
  exact ⟨rfl, N0, e0⟩
theorem d13_0 : decode prog_39_method_7_code 0 = .ok (.iload_n 1, 1) := by decide +kernel
theorem d13_1 : decode prog_39_method_7_code 1 = .ok (.istore 6, 2) := by decide +kernel
theorem d13_3 : decode prog_39_method_7_code 3 = .ok (.iconst 2, 1) := by decide +kernel
theorem d13_4 : decode prog_39_method_7_code 4 = .ok (.aload_n 0, 1) := by decide +kernel
theorem d13_5 : decode prog_39_method_7_code 5 = .ok (.getfield 38, 3) := by decide +kernel
theorem d13_8 : decode prog_39_method_7_code 8 = .ok (.iconst 1, 1) := by decide +kernel
theorem d13_9 : decode prog_39_method_7_code 9 = .ok (.iadd, 1) := by decide +kernel
theorem d13_10 : decode prog_39_method_7_code 10 = .ok (.imul, 1) := by decide +kernel
theorem d13_11 : decode prog_39_method_7_code 11 = .ok (.aload_n 0, 1) := by decide +kernel
theorem d13_12 : decode prog_39_method_7_code 12 = .ok (.getfield 9, 3) := by decide +kernel
theorem d13_15 : decode prog_39_method_7_code 15 = .ok (.arraylength, 1) := by decide +kernel
theorem d13_16 : decode prog_39_method_7_code 16 = .ok (.if_icmp .le 14, 3) := by decide +kernel
theorem d13_19 : decode prog_39_method_7_code 19 = .ok (.aload_n 0, 1) := by decide +kernel
theorem d13_20 : decode prog_39_method_7_code 20 = .ok (.invokevirtual 44, 3) := by decide +kernel
theorem d13_23 : decode prog_39_method_7_code 23 = .ok (.aload_n 0, 1) := by decide +kernel
theorem d13_24 : decode prog_39_method_7_code 24 = .ok (.lload_n 2, 1) := by decide +kernel
theorem d13_25 : decode prog_39_method_7_code 25 = .ok (.invokevirtual 26, 3) := by decide +kernel
theorem d13_28 : decode prog_39_method_7_code 28 = .ok (.istore 6, 2) := by decide +kernel
theorem d13_30 : decode prog_39_method_7_code 30 = .ok (.aload_n 0, 1) := by decide +kernel
theorem d13_31 : decode prog_39_method_7_code 31 = .ok (.getfield 9, 3) := by decide +kernel
theorem d13_34 : decode prog_39_method_7_code 34 = .ok (.iload 6, 2) := by decide +kernel
theorem d13_36 : decode prog_39_method_7_code 36 = .ok (.lload_n 2, 1) := by decide +kernel
theorem d13_37 : decode prog_39_method_7_code 37 = .ok (.lastore, 1) := by decide +kernel
theorem d13_38 : decode prog_39_method_7_code 38 = .ok (.aload_n 0, 1) := by decide +kernel
theorem d13_39 : decode prog_39_method_7_code 39 = .ok (.getfield 13, 3) := by decide +kernel
theorem d13_42 : decode prog_39_method_7_code 42 = .ok (.iload 6, 2) := by decide +kernel
theorem d13_44 : decode prog_39_method_7_code 44 = .ok (.lload 4, 2) := by decide +kernel
theorem d13_46 : decode prog_39_method_7_code 46 = .ok (.lastore, 1) := by decide +kernel
theorem d13_47 : decode prog_39_method_7_code 47 = .ok (.aload_n 0, 1) := by decide +kernel
theorem d13_48 : decode prog_39_method_7_code 48 = .ok (.dup, 1) := by decide +kernel
theorem d13_49 : decode prog_39_method_7_code 49 = .ok (.getfield 38, 3) := by decide +kernel
theorem d13_52 : decode prog_39_method_7_code 52 = .ok (.iconst 1, 1) := by decide +kernel
theorem d13_53 : decode prog_39_method_7_code 53 = .ok (.iadd, 1) := by decide +kernel
theorem d13_54 : decode prog_39_method_7_code 54 = .ok (.putfield 38, 3) := by decide +kernel
theorem d13_57 : decode prog_39_method_7_code 57 = .ok (.return_, 1) := by decide +kernel
theorem own_pd7 : parseMethodDescriptor "(IJJ)V" = some ⟨[.int, .long, .long], none⟩ := by decide +kernel
def Q13 (Z : State) (ob : Addr) (ka : Addr) (wa : Addr) (kk : ClassId) (kw : ClassId) (K : Nat → Int64) (W : Nat → Int64) (j : Nat) (u2 : Int64) (u4 : Int64) (sz : Int32) (h0 : Heap) (n0 : Nat) (v : Option Value) (h : Heap) (L : List Loc) : Prop := v = none ∧ Fr n0 L ∧ Keep h0 h [ob, ka, wa] ∧ Exa Z h ob "quillvax/store/LongMap" ∧ Fld Z h ob "quillvax/store/LongMap" "keys" "[J" (.ref ka) ∧ Fld Z h ob "quillvax/store/LongMap" "values" "[J" (.ref wa) ∧ Fld Z h ob "quillvax/store/LongMap" "slotBits" "I" (.int (4 : Int32)) ∧ Fld Z h ob "quillvax/store/LongMap" "size" "I" (.int (sz + (1 : Int32))) ∧ Arv Z h ka kk .long (16 : Int32) (own_vs (own_upd K j u2)) (.long (0 : Int64)) ∧ Arv Z h wa kw .long (16 : Int32) (own_vs (own_upd W j u4)) (.long (0 : Int64))
theorem ef_13 (m : MethodId) (x0 : Addr) (x1 : Int32) (x2 : Int64) (x3 : Int64) : entryFrame m #[(.ref x0), (.int x1), (.long x2), (.long x3)] 7 = mkF m 0 #[.val (.ref x0), .val (.int x1), .val (.long x2), .second, .val (.long x3), .second, .unset] [] := by first | (simp [entryFrame, mkF, argsToLocals, Value.category]; done) | rfl
set_option maxRecDepth 65536 in
set_option maxHeartbeats 40000000 in
theorem rm13 (l : Launch) (Z : State) (a0 : Array Value) (hw : ∀ d ∈ tables_1, d.before a0 Z = true) (ws : List Jvm.Cond) (ob : Addr) (ka : Addr) (wa : Addr) (kk : ClassId) (kw : ClassId) (K : Nat → Int64) (W : Nat → Int64) (j : Nat) (u2 : Int64) (u4 : Int64) (sz : Int32) (h0 : Heap) (n0 : Nat) (Z0 : n0 ≤ h0.size) (E_ob : Exa Z h0 ob "quillvax/store/LongMap") (F_keys : Fld Z h0 ob "quillvax/store/LongMap" "keys" "[J" (.ref ka)) (F_values : Fld Z h0 ob "quillvax/store/LongMap" "values" "[J" (.ref wa)) (F_slotBits : Fld Z h0 ob "quillvax/store/LongMap" "slotBits" "I" (.int (4 : Int32))) (F_size : Fld Z h0 ob "quillvax/store/LongMap" "size" "I" (.int sz)) (V_ka : Arv Z h0 ka kk .long (16 : Int32) (own_vs K) (.long (0 : Int64))) (V_wa : Arv Z h0 wa kw .long (16 : Int32) (own_vs W) (.long (0 : Int64))) (gnob : n0 ≤ ob) (gnka : n0 ≤ ka) (gnwa : n0 ≤ wa) (ne1 : ob ≠ ka) (ne2 : ob ≠ wa) (ne3 : ka ≠ wa) (hj : j < 16) (hsz : ¬ ((16 : Int32) < ((2 : Int32) * (sz + (1 : Int32))))) :
    MetFree l (⟨"quillvax/store/LongMap", "putNew", "(IJJ)V"⟩ : MethodName) (head1 (Jvm.Cond.code (⟨"quillvax/store/LongMap", "putNew", "(IJJ)V"⟩ : MethodName) prog_39_method_7_code 7 none :: ws) ({ frames := 0, cells := 0, slots := 0, locals := 0 } : Room)) (fun a U => a = #[(.ref ob), (.int (Int32.ofNat j)), (.long u2), (.long u4)] ∧ Z.Warmed39 U.vm ∧ U.heap = h0) (fun _ _ _ _ _ => True) (fun _ U o U' => ∃ v L, o = .returned v ∧ Q13 Z ob ka wa kk kw K W j u2 u4 sz h0 n0 v U'.heap L ∧ FrameEnd U o U' L ({ frames := 0, cells := 0, slots := 0, locals := 0 } : Room).cells ({ frames := 0, cells := 0, slots := 0, locals := 0 } : Room).slots) := by
  refine MetFree.of_bodySF (plainFor_of_name own_pn2) hisR ?_
  intro p e s m args below meth c s₁ Bd hml0 hP hK
  obtain ⟨rfl, hZ, hh⟩ := hP
  have hx := Bd.exec
  have hby := Bd.bytes
  have hml : c.maxLocals = 7 := hml0
  have hown : s.vm.findClass "quillvax/store/LongMap" = some m.cls := findClass_of_methodNamed Bd.named
  have hnm := (name_of_methodNamed Bd.named Bd.method).1
  have X0 : Stand p l e ({ frames := 0, cells := 0, slots := 0, locals := 0 } : Room) s m #[(.ref ob), (.int (Int32.ofNat j)), (.long u2), (.long u4)] below meth c s₁ [] 0 0 := Stand.of_body Bd
  have e0 : s₁.heap = h0 := by rw [← hh, Bd.state]; rfl
  have N0 := Fr.nil n0
  refine own_in ?_
  refine own_st (fun _ k => castTop (ef_13 m ob (Int32.ofNat j) u2 u4) k) ?_
  have K0 : Keep h0 h0 [ob, ka, wa] := Keep.refl h0 [ob, ka, wa]
  show own_Go _ _ _ _ (s₁.setTop (mkF m 0 #[.val (.ref ob), .val (.int (Int32.ofNat j)), .val (.long u2), .second, .val (.long u4), .second, .unset] []))
  refine own_st (fun _ k => XS.iloadN X0.here hx rfl (hb hby d13_0) rfl k) ?_
  show own_Go _ _ _ _ (s₁.setTop (mkF m 1 #[.val (.ref ob), .val (.int (Int32.ofNat j)), .val (.long u2), .second, .val (.long u4), .second, .unset] [(.int (Int32.ofNat j))]))
  refine own_st (fun _ k => XS.istore X0.here hx rfl (hb hby d13_1) rfl (l' := #[.val (.ref ob), .val (.int (Int32.ofNat j)), .val (.long u2), .second, .val (.long u4), .second, .val (.int (Int32.ofNat j))]) rfl k) ?_
  show own_Go _ _ _ _ (s₁.setTop (mkF m 3 #[.val (.ref ob), .val (.int (Int32.ofNat j)), .val (.long u2), .second, .val (.long u4), .second, .val (.int (Int32.ofNat j))] []))
  refine own_st (fun _ k => XS.iconst X0.here hx rfl (hb hby d13_3) k) ?_
  show own_Go _ _ _ _ (s₁.setTop (mkF m 4 #[.val (.ref ob), .val (.int (Int32.ofNat j)), .val (.long u2), .second, .val (.long u4), .second, .val (.int (Int32.ofNat j))] [(.int (2 : Int32))]))
  refine own_st (fun _ k => XS.aloadN X0.here hx rfl (hb hby d13_4) rfl rfl k) ?_
  show own_Go _ _ _ _ (s₁.setTop (mkF m 5 #[.val (.ref ob), .val (.int (Int32.ofNat j)), .val (.long u2), .second, .val (.long u4), .second, .val (.int (Int32.ofNat j))] [(.ref ob), (.int (2 : Int32))]))
  obtain ⟨T37, X37, e37, st37⟩ := getF X0 hx hZ hown (host := "") (Or.inl (hw _ (List.mem_of_getElem? (i := 65) rfl))) Via.refl e0 F_size (g := (mkF m 5 #[.val (.ref ob), .val (.int (Int32.ofNat j)), .val (.long u2), .second, .val (.long u4), .second, .val (.int (Int32.ofNat j))] [(.ref ob), (.int (2 : Int32))])) rfl rfl (hb hby d13_5)
  refine own_st st37 ?_
  show own_Go _ _ _ _ (T37.setTop (mkF m 8 #[.val (.ref ob), .val (.int (Int32.ofNat j)), .val (.long u2), .second, .val (.long u4), .second, .val (.int (Int32.ofNat j))] [(.int sz), (.int (2 : Int32))]))
  refine own_st (fun _ k => XS.iconst X37.here hx rfl (hb hby d13_8) k) ?_
  show own_Go _ _ _ _ (T37.setTop (mkF m 9 #[.val (.ref ob), .val (.int (Int32.ofNat j)), .val (.long u2), .second, .val (.long u4), .second, .val (.int (Int32.ofNat j))] [(.int (1 : Int32)), (.int sz), (.int (2 : Int32))]))
  refine own_st (fun _ k => XS.iadd X37.here hx rfl (hb hby d13_9) rfl k) ?_
  show own_Go _ _ _ _ (T37.setTop (mkF m 10 #[.val (.ref ob), .val (.int (Int32.ofNat j)), .val (.long u2), .second, .val (.long u4), .second, .val (.int (Int32.ofNat j))] [(.int (sz + (1 : Int32))), (.int (2 : Int32))]))
  refine own_st (fun _ k => XS.imul X37.here hx rfl (hb hby d13_10) rfl k) ?_
  show own_Go _ _ _ _ (T37.setTop (mkF m 11 #[.val (.ref ob), .val (.int (Int32.ofNat j)), .val (.long u2), .second, .val (.long u4), .second, .val (.int (Int32.ofNat j))] [(.int ((2 : Int32) * (sz + (1 : Int32))))]))
  refine own_st (fun _ k => XS.aloadN X37.here hx rfl (hb hby d13_11) rfl rfl k) ?_
  show own_Go _ _ _ _ (T37.setTop (mkF m 12 #[.val (.ref ob), .val (.int (Int32.ofNat j)), .val (.long u2), .second, .val (.long u4), .second, .val (.int (Int32.ofNat j))] [(.ref ob), (.int ((2 : Int32) * (sz + (1 : Int32))))]))
  obtain ⟨T38, X38, e38, st38⟩ := getF X37 hx hZ hown (host := "") (Or.inl (hw _ (List.mem_of_getElem? (i := 23) rfl))) Via.refl e37 F_keys (g := (mkF m 12 #[.val (.ref ob), .val (.int (Int32.ofNat j)), .val (.long u2), .second, .val (.long u4), .second, .val (.int (Int32.ofNat j))] [(.ref ob), (.int ((2 : Int32) * (sz + (1 : Int32))))])) rfl rfl (hb hby d13_12)
  refine own_st st38 ?_
  show own_Go _ _ _ _ (T38.setTop (mkF m 15 #[.val (.ref ob), .val (.int (Int32.ofNat j)), .val (.long u2), .second, .val (.long u4), .second, .val (.int (Int32.ofNat j))] [(.ref ka), (.int ((2 : Int32) * (sz + (1 : Int32))))]))
  obtain ⟨cl39, Ar39, -, Sz39, Nn39, -, -⟩ := id V_ka
  refine own_st (X38.arraylength hx (by rw [e38]; exact Ar39.1) (State.isArrayOf_alike hZ.alike Ar39.2.1) (g := (mkF m 15 #[.val (.ref ob), .val (.int (Int32.ofNat j)), .val (.long u2), .second, .val (.long u4), .second, .val (.int (Int32.ofNat j))] [(.ref ka), (.int ((2 : Int32) * (sz + (1 : Int32))))])) rfl rfl (hb hby d13_15)) ?_
  rw [len_of Sz39 Nn39]
  show own_Go _ _ _ _ (T38.setTop (mkF m 16 #[.val (.ref ob), .val (.int (Int32.ofNat j)), .val (.long u2), .second, .val (.long u4), .second, .val (.int (Int32.ofNat j))] [(.int (16 : Int32)), (.int ((2 : Int32) * (sz + (1 : Int32))))]))
  refine own_st (fun _ k => XS.icmpYes X38.here hx rfl (pc0 := 16) (pc' := 30) rfl (hb hby d13_16) rfl (flt (hsz)).2.2.2 (by decide) (by decide) k) ?_
  show own_Go _ _ _ _ (T38.setTop (mkF m 30 #[.val (.ref ob), .val (.int (Int32.ofNat j)), .val (.long u2), .second, .val (.long u4), .second, .val (.int (Int32.ofNat j))] []))
  refine own_st (fun _ k => XS.aloadN X38.here hx rfl (hb hby d13_30) rfl rfl k) ?_
  show own_Go _ _ _ _ (T38.setTop (mkF m 31 #[.val (.ref ob), .val (.int (Int32.ofNat j)), .val (.long u2), .second, .val (.long u4), .second, .val (.int (Int32.ofNat j))] [(.ref ob)]))
  obtain ⟨T40, X40, e40, st40⟩ := getF X38 hx hZ hown (host := "") (Or.inl (hw _ (List.mem_of_getElem? (i := 23) rfl))) Via.refl e38 F_keys (g := (mkF m 31 #[.val (.ref ob), .val (.int (Int32.ofNat j)), .val (.long u2), .second, .val (.long u4), .second, .val (.int (Int32.ofNat j))] [(.ref ob)])) rfl rfl (hb hby d13_31)
  refine own_st st40 ?_
  show own_Go _ _ _ _ (T40.setTop (mkF m 34 #[.val (.ref ob), .val (.int (Int32.ofNat j)), .val (.long u2), .second, .val (.long u4), .second, .val (.int (Int32.ofNat j))] [(.ref ka)]))
  refine own_st (fun _ k => XS.iload X40.here hx rfl (hb hby d13_34) rfl k) ?_
  show own_Go _ _ _ _ (T40.setTop (mkF m 36 #[.val (.ref ob), .val (.int (Int32.ofNat j)), .val (.long u2), .second, .val (.long u4), .second, .val (.int (Int32.ofNat j))] [(.int (Int32.ofNat j)), (.ref ka)]))
  refine own_st (fun _ k => XS.lloadN X40.here hx rfl (hb hby d13_36) rfl k) ?_
  show own_Go _ _ _ _ (T40.setTop (mkF m 37 #[.val (.ref ob), .val (.int (Int32.ofNat j)), .val (.long u2), .second, .val (.long u4), .second, .val (.int (Int32.ofNat j))] [(.long u2), (.int (Int32.ofNat j)), (.ref ka)]))
  obtain ⟨cl41, Ar41, Kd41, Sz41, Nn41, Hs41, Gs41⟩ := id V_ka
  obtain ⟨T41, h41, X41, e41, W41, st41⟩ := stJ X40 hx hZ e40 Ar41 (j := (Int32.ofNat j)) (inb_of Sz41 ⟨(own_ofN j hj).2.1, (own_ofN j hj).2.2⟩) (g := (mkF m 37 #[.val (.ref ob), .val (.int (Int32.ofNat j)), .val (.long u2), .second, .val (.long u4), .second, .val (.int (Int32.ofNat j))] [(.long u2), (.int (Int32.ofNat j)), (.ref ka)])) rfl rfl (hb hby d13_37)
  refine own_st st41 ?_
  have V41 : Arv Z h41 ka kk .long (16 : Int32) (own_vs (own_upd K j u2)) (.long (0 : Int64)) := by
    have q := Arv.set Ar41 Kd41 Sz41 Nn41 Hs41 Gs41 (v := .long u2) rfl W41 j (own_ofN j hj).1 (by rw [own_vs_len]; exact hj)
    rw [own_vs_set _ _ _ hj] at q; exact q
  have y41_E_ob := E_ob.wr W41
  have y41_F_ob_keys := F_keys.other W41 (Or.inl ne1)
  have y41_F_ob_values := F_values.other W41 (Or.inl ne1)
  have y41_F_ob_slotBits := F_slotBits.other W41 (Or.inl ne1)
  have y41_F_ob_size := F_size.other W41 (Or.inl ne1)
  have y41_V_wa := V_wa.other W41 (Ne.symm ne3)
  have Z41 : n0 ≤ h41.size := Nat.le_trans Z0 (Nat.le_of_eq W41.size.symm)
  have N41 := Fr.snoc X41 N0 gnka
  have K41 : Keep h0 h41 [ob, ka, wa] := K0.wr W41 (Or.inl (by simp))
  show own_Go _ _ _ _ (T41.setTop (mkF m 38 #[.val (.ref ob), .val (.int (Int32.ofNat j)), .val (.long u2), .second, .val (.long u4), .second, .val (.int (Int32.ofNat j))] []))
  refine own_st (fun _ k => XS.aloadN X41.here hx rfl (hb hby d13_38) rfl rfl k) ?_
  show own_Go _ _ _ _ (T41.setTop (mkF m 39 #[.val (.ref ob), .val (.int (Int32.ofNat j)), .val (.long u2), .second, .val (.long u4), .second, .val (.int (Int32.ofNat j))] [(.ref ob)]))
  obtain ⟨T42, X42, e42, st42⟩ := getF X41 hx hZ hown (host := "") (Or.inl (hw _ (List.mem_of_getElem? (i := 25) rfl))) Via.refl e41 y41_F_ob_values (g := (mkF m 39 #[.val (.ref ob), .val (.int (Int32.ofNat j)), .val (.long u2), .second, .val (.long u4), .second, .val (.int (Int32.ofNat j))] [(.ref ob)])) rfl rfl (hb hby d13_39)
  refine own_st st42 ?_
  show own_Go _ _ _ _ (T42.setTop (mkF m 42 #[.val (.ref ob), .val (.int (Int32.ofNat j)), .val (.long u2), .second, .val (.long u4), .second, .val (.int (Int32.ofNat j))] [(.ref wa)]))
  refine own_st (fun _ k => XS.iload X42.here hx rfl (hb hby d13_42) rfl k) ?_
  show own_Go _ _ _ _ (T42.setTop (mkF m 44 #[.val (.ref ob), .val (.int (Int32.ofNat j)), .val (.long u2), .second, .val (.long u4), .second, .val (.int (Int32.ofNat j))] [(.int (Int32.ofNat j)), (.ref wa)]))
  refine own_st (fun _ k => XS.lload X42.here hx rfl (hb hby d13_44) rfl k) ?_
  show own_Go _ _ _ _ (T42.setTop (mkF m 46 #[.val (.ref ob), .val (.int (Int32.ofNat j)), .val (.long u2), .second, .val (.long u4), .second, .val (.int (Int32.ofNat j))] [(.long u4), (.int (Int32.ofNat j)), (.ref wa)]))
  obtain ⟨cl43, Ar43, Kd43, Sz43, Nn43, Hs43, Gs43⟩ := id y41_V_wa
  obtain ⟨T43, h43, X43, e43, W43, st43⟩ := stJ X42 hx hZ e42 Ar43 (j := (Int32.ofNat j)) (inb_of Sz43 ⟨(own_ofN j hj).2.1, (own_ofN j hj).2.2⟩) (g := (mkF m 46 #[.val (.ref ob), .val (.int (Int32.ofNat j)), .val (.long u2), .second, .val (.long u4), .second, .val (.int (Int32.ofNat j))] [(.long u4), (.int (Int32.ofNat j)), (.ref wa)])) rfl rfl (hb hby d13_46)
  refine own_st st43 ?_
  have V43 : Arv Z h43 wa kw .long (16 : Int32) (own_vs (own_upd W j u4)) (.long (0 : Int64)) := by
    have q := Arv.set Ar43 Kd43 Sz43 Nn43 Hs43 Gs43 (v := .long u4) rfl W43 j (own_ofN j hj).1 (by rw [own_vs_len]; exact hj)
    rw [own_vs_set _ _ _ hj] at q; exact q
  have y43_E_ob := y41_E_ob.wr W43
  have y43_F_ob_keys := y41_F_ob_keys.other W43 (Or.inl ne2)
  have y43_F_ob_values := y41_F_ob_values.other W43 (Or.inl ne2)
  have y43_F_ob_slotBits := y41_F_ob_slotBits.other W43 (Or.inl ne2)
  have y43_F_ob_size := y41_F_ob_size.other W43 (Or.inl ne2)
  have y43_V_ka := V41.other W43 ne3
  have Z43 : n0 ≤ h43.size := Nat.le_trans Z41 (Nat.le_of_eq W43.size.symm)
  have N43 := Fr.snoc X43 N41 gnwa
  have K43 : Keep h0 h43 [ob, ka, wa] := K41.wr W43 (Or.inl (by simp))
  show own_Go _ _ _ _ (T43.setTop (mkF m 47 #[.val (.ref ob), .val (.int (Int32.ofNat j)), .val (.long u2), .second, .val (.long u4), .second, .val (.int (Int32.ofNat j))] []))
  refine own_st (fun _ k => XS.aloadN X43.here hx rfl (hb hby d13_47) rfl rfl k) ?_
  show own_Go _ _ _ _ (T43.setTop (mkF m 48 #[.val (.ref ob), .val (.int (Int32.ofNat j)), .val (.long u2), .second, .val (.long u4), .second, .val (.int (Int32.ofNat j))] [(.ref ob)]))
  refine own_st (fun _ k => XS.dup X43.here hx rfl (hb hby d13_48) rfl rfl k) ?_
  show own_Go _ _ _ _ (T43.setTop (mkF m 49 #[.val (.ref ob), .val (.int (Int32.ofNat j)), .val (.long u2), .second, .val (.long u4), .second, .val (.int (Int32.ofNat j))] [(.ref ob), (.ref ob)]))
  obtain ⟨T44, X44, e44, st44⟩ := getF X43 hx hZ hown (host := "") (Or.inl (hw _ (List.mem_of_getElem? (i := 65) rfl))) Via.refl e43 y43_F_ob_size (g := (mkF m 49 #[.val (.ref ob), .val (.int (Int32.ofNat j)), .val (.long u2), .second, .val (.long u4), .second, .val (.int (Int32.ofNat j))] [(.ref ob), (.ref ob)])) rfl rfl (hb hby d13_49)
  refine own_st st44 ?_
  show own_Go _ _ _ _ (T44.setTop (mkF m 52 #[.val (.ref ob), .val (.int (Int32.ofNat j)), .val (.long u2), .second, .val (.long u4), .second, .val (.int (Int32.ofNat j))] [(.int sz), (.ref ob)]))
  refine own_st (fun _ k => XS.iconst X44.here hx rfl (hb hby d13_52) k) ?_
  show own_Go _ _ _ _ (T44.setTop (mkF m 53 #[.val (.ref ob), .val (.int (Int32.ofNat j)), .val (.long u2), .second, .val (.long u4), .second, .val (.int (Int32.ofNat j))] [(.int (1 : Int32)), (.int sz), (.ref ob)]))
  refine own_st (fun _ k => XS.iadd X44.here hx rfl (hb hby d13_53) rfl k) ?_
  show own_Go _ _ _ _ (T44.setTop (mkF m 54 #[.val (.ref ob), .val (.int (Int32.ofNat j)), .val (.long u2), .second, .val (.long u4), .second, .val (.int (Int32.ofNat j))] [(.int (sz + (1 : Int32))), (.ref ob)]))
  obtain ⟨T45, h45, X45, e45, W45, st45⟩ := putF X44 hx hZ hown (host := "") (Or.inl (hw _ (List.mem_of_getElem? (i := 65) rfl))) Via.refl e44 y43_F_ob_size y43_E_ob (Or.inl (hw _ (List.mem_of_getElem? (i := 66) rfl))) (hw _ (List.mem_of_getElem? (i := 15) rfl)) (ty := .int) (by decide) rfl rfl (g := (mkF m 54 #[.val (.ref ob), .val (.int (Int32.ofNat j)), .val (.long u2), .second, .val (.long u4), .second, .val (.int (Int32.ofNat j))] [(.int (sz + (1 : Int32))), (.ref ob)])) rfl rfl (hb hby d13_54)
  refine own_st st45 ?_
  have Fw45 : Fld Z h45 ob "quillvax/store/LongMap" "size" "I" (.int (sz + (1 : Int32))) := y43_F_ob_size.same W45
  have y45_E_ob := y43_E_ob.wr W45
  have y45_F_ob_keys := y43_F_ob_keys.other W45 (Or.inr (slot_ne (Or.inl (hw _ (List.mem_of_getElem? (i := 24) rfl))) (Or.inl (hw _ (List.mem_of_getElem? (i := 66) rfl))) (by decide) (t := (.array .long)) (t' := .int) (by decide) (by decide)))
  have y45_F_ob_values := y43_F_ob_values.other W45 (Or.inr (slot_ne (Or.inl (hw _ (List.mem_of_getElem? (i := 26) rfl))) (Or.inl (hw _ (List.mem_of_getElem? (i := 66) rfl))) (by decide) (t := (.array .long)) (t' := .int) (by decide) (by decide)))
  have y45_F_ob_slotBits := y43_F_ob_slotBits.other W45 (Or.inr (slot_ne (Or.inl (hw _ (List.mem_of_getElem? (i := 33) rfl))) (Or.inl (hw _ (List.mem_of_getElem? (i := 66) rfl))) (by decide) (t := .int) (t' := .int) (by decide) (by decide)))
  have y45_V_ka := y43_V_ka.other W45 (Ne.symm ne1)
  have y45_V_wa := V43.other W45 (Ne.symm ne2)
  have Z45 : n0 ≤ h45.size := Nat.le_trans Z43 (Nat.le_of_eq W45.size.symm)
  have N45 := Fr.snoc X45 N43 gnob
  have K45 : Keep h0 h45 [ob, ka, wa] := K43.wr W45 (Or.inl (by simp))
  show own_Go _ _ _ _ (T45.setTop (mkF m 57 #[.val (.ref ob), .val (.int (Int32.ofNat j)), .val (.long u2), .second, .val (.long u4), .second, .val (.int (Int32.ofNat j))] []))
  obtain ⟨fs, hr, hrun, hended, hW, hsame⟩ := X45.leave (v := none) (fun _ => rfl)
  refine own_out (X45.returnOut hx Bd.returns (hb hby d13_57) hr) ⟨hrun, hended, _, _, rfl, ?_, ⟨_, rfl⟩, hW, hsame.mono (by decide) (by decide)⟩
  show Q13 Z ob ka wa kk kw K W j u2 u4 sz h0 n0 _ T45.heap _
  rw [e45]
  exact ⟨rfl, N45, K45, y45_E_ob, y45_F_ob_keys, y45_F_ob_values, y45_F_ob_slotBits, Fw45, y45_V_ka, y45_V_wa⟩
theorem d11_0 : decode prog_39_method_3_code 0 = .ok (.lload_n 3, 1) := by decide +kernel
theorem d11_1 : decode prog_39_method_3_code 1 = .ok (.invokestatic 30, 3) := by decide +kernel
theorem d11_4 : decode prog_39_method_3_code 4 = .ok (.aload_n 0, 1) := by decide +kernel
theorem d11_5 : decode prog_39_method_3_code 5 = .ok (.lload_n 1, 1) := by decide +kernel
theorem d11_6 : decode prog_39_method_3_code 6 = .ok (.invokevirtual 26, 3) := by decide +kernel
theorem d11_9 : decode prog_39_method_3_code 9 = .ok (.istore 5, 2) := by decide +kernel
theorem d11_11 : decode prog_39_method_3_code 11 = .ok (.aload_n 0, 1) := by decide +kernel
theorem d11_12 : decode prog_39_method_3_code 12 = .ok (.getfield 13, 3) := by decide +kernel
theorem d11_15 : decode prog_39_method_3_code 15 = .ok (.iload 5, 2) := by decide +kernel
theorem d11_17 : decode prog_39_method_3_code 17 = .ok (.laload, 1) := by decide +kernel
theorem d11_18 : decode prog_39_method_3_code 18 = .ok (.lconst 0, 1) := by decide +kernel
theorem d11_19 : decode prog_39_method_3_code 19 = .ok (.lcmp, 1) := by decide +kernel
theorem d11_20 : decode prog_39_method_3_code 20 = .ok (.ifCond .ne 14, 3) := by decide +kernel
theorem d11_23 : decode prog_39_method_3_code 23 = .ok (.aload_n 0, 1) := by decide +kernel
theorem d11_24 : decode prog_39_method_3_code 24 = .ok (.iload 5, 2) := by decide +kernel
theorem d11_26 : decode prog_39_method_3_code 26 = .ok (.lload_n 1, 1) := by decide +kernel
theorem d11_27 : decode prog_39_method_3_code 27 = .ok (.lload_n 3, 1) := by decide +kernel
theorem d11_28 : decode prog_39_method_3_code 28 = .ok (.invokevirtual 34, 3) := by decide +kernel
theorem d11_31 : decode prog_39_method_3_code 31 = .ok (.goto 11, 3) := by decide +kernel
theorem d11_34 : decode prog_39_method_3_code 34 = .ok (.aload_n 0, 1) := by decide +kernel
theorem d11_35 : decode prog_39_method_3_code 35 = .ok (.getfield 13, 3) := by decide +kernel
theorem d11_38 : decode prog_39_method_3_code 38 = .ok (.iload 5, 2) := by decide +kernel
theorem d11_40 : decode prog_39_method_3_code 40 = .ok (.lload_n 3, 1) := by decide +kernel
theorem d11_41 : decode prog_39_method_3_code 41 = .ok (.lastore, 1) := by decide +kernel
theorem d11_42 : decode prog_39_method_3_code 42 = .ok (.return_, 1) := by decide +kernel
theorem own_pd8 : parseMethodDescriptor "(JJ)V" = some ⟨[.long, .long], none⟩ := by decide +kernel
def Q11 (Z : State) (ob : Addr) (ka : Addr) (wa : Addr) (kk : ClassId) (kw : ClassId) (K : Nat → Int64) (W : Nat → Int64) (u1 : Int64) (u3 : Int64) (j : Nat) (sz : Int32) (h0 : Heap) (n0 : Nat) (v : Option Value) (h : Heap) (L : List Loc) : Prop := v = none ∧ Fr n0 L ∧ Keep h0 h [ob, ka, wa] ∧ Exa Z h ob "quillvax/store/LongMap" ∧ Fld Z h ob "quillvax/store/LongMap" "keys" "[J" (.ref ka) ∧ Fld Z h ob "quillvax/store/LongMap" "values" "[J" (.ref wa) ∧ Fld Z h ob "quillvax/store/LongMap" "slotBits" "I" (.int (4 : Int32)) ∧ Fld Z h ob "quillvax/store/LongMap" "size" "I" (.int (sz + (1 : Int32))) ∧ Arv Z h ka kk .long (16 : Int32) (own_vs (own_upd K j u1)) (.long (0 : Int64)) ∧ Arv Z h wa kw .long (16 : Int32) (own_vs (own_upd W j u3)) (.long (0 : Int64))
theorem ef_11 (m : MethodId) (x0 : Addr) (x1 : Int64) (x2 : Int64) : entryFrame m #[(.ref x0), (.long x1), (.long x2)] 6 = mkF m 0 #[.val (.ref x0), .val (.long x1), .second, .val (.long x2), .second, .unset] [] := by first | (simp [entryFrame, mkF, argsToLocals, Value.category]; done) | rfl
set_option maxRecDepth 65536 in
set_option maxHeartbeats 40000000 in
theorem rm11 (l : Launch) (Z : State) (a0 : Array Value) (hw : ∀ d ∈ tables_1, d.before a0 Z = true) (ws : List Jvm.Cond) (ob : Addr) (ka : Addr) (wa : Addr) (kk : ClassId) (kw : ClassId) (K : Nat → Int64) (W : Nat → Int64) (u1 : Int64) (u3 : Int64) (j : Nat) (sz : Int32) (h0 : Heap) (n0 : Nat) (Z0 : n0 ≤ h0.size) (E_ob : Exa Z h0 ob "quillvax/store/LongMap") (F_keys : Fld Z h0 ob "quillvax/store/LongMap" "keys" "[J" (.ref ka)) (F_values : Fld Z h0 ob "quillvax/store/LongMap" "values" "[J" (.ref wa)) (F_slotBits : Fld Z h0 ob "quillvax/store/LongMap" "slotBits" "I" (.int (4 : Int32))) (F_size : Fld Z h0 ob "quillvax/store/LongMap" "size" "I" (.int sz)) (V_ka : Arv Z h0 ka kk .long (16 : Int32) (own_vs K) (.long (0 : Int64))) (V_wa : Arv Z h0 wa kw .long (16 : Int32) (own_vs W) (.long (0 : Int64))) (gnob : n0 ≤ ob) (gnka : n0 ≤ ka) (gnwa : n0 ≤ wa) (ne1 : ob ≠ ka) (ne2 : ob ≠ wa) (ne3 : ka ≠ wa) (hfind : own_find K W u1 16 (own_home u1) = some j) (hv : ¬ (lcmpW u3 (0 : Int64)) = (0 : Int32)) (hW0 : W j = 0) (hsz : ¬ ((16 : Int32) < ((2 : Int32) * (sz + (1 : Int32))))) :
    MetFree l (⟨"quillvax/store/LongMap", "put", "(JJ)V"⟩ : MethodName) (head1 (Jvm.Cond.code (⟨"quillvax/store/LongMap", "put", "(JJ)V"⟩ : MethodName) prog_39_method_3_code 6 none :: ws) ({ frames := 2, cells := 0, slots := 0, locals := 60 } : Room)) (fun a U => a = #[(.ref ob), (.long u1), (.long u3)] ∧ Z.Warmed39 U.vm ∧ U.heap = h0) (fun _ _ _ _ _ => True) (fun _ U o U' => ∃ v L, o = .returned v ∧ Q11 Z ob ka wa kk kw K W u1 u3 j sz h0 n0 v U'.heap L ∧ FrameEnd U o U' L ({ frames := 2, cells := 0, slots := 0, locals := 60 } : Room).cells ({ frames := 2, cells := 0, slots := 0, locals := 60 } : Room).slots) := by
  refine MetFree.of_bodySF (plainFor_of_name own_pn2) hisR ?_
  intro p e s m args below meth c s₁ Bd hml0 hP hK
  obtain ⟨rfl, hZ, hh⟩ := hP
  have hx := Bd.exec
  have hby := Bd.bytes
  have hml : c.maxLocals = 6 := hml0
  have hown : s.vm.findClass "quillvax/store/LongMap" = some m.cls := findClass_of_methodNamed Bd.named
  have hnm := (name_of_methodNamed Bd.named Bd.method).1
  have X0 : Stand p l e ({ frames := 2, cells := 0, slots := 0, locals := 60 } : Room) s m #[(.ref ob), (.long u1), (.long u3)] below meth c s₁ [] 0 0 := Stand.of_body Bd
  have e0 : s₁.heap = h0 := by rw [← hh, Bd.state]; rfl
  have N0 := Fr.nil n0
  refine own_in ?_
  refine own_st (fun _ k => castTop (ef_11 m ob u1 u3) k) ?_
  have hj : j < 16 := own_find_lt K W u1 16 _ j (own_hom16 u1) hfind
  have K0 : Keep h0 h0 [ob, ka, wa] := Keep.refl h0 [ob, ka, wa]
  show own_Go _ _ _ _ (s₁.setTop (mkF m 0 #[.val (.ref ob), .val (.long u1), .second, .val (.long u3), .second, .unset] []))
  refine own_st (fun _ k => XS.lloadN X0.here hx rfl (hb hby d11_0) rfl k) ?_
  show own_Go _ _ _ _ (s₁.setTop (mkF m 1 #[.val (.ref ob), .val (.long u1), .second, .val (.long u3), .second, .unset] [(.long u3)]))
  obtain ⟨_, _, ⟨T46, L46, k46, n46⟩, -, X46, ⟨Lc46, hQ46, l46, y46, z46⟩, st46⟩ := Jvm.LawKit.callS X0 hx (y := (⟨"quillvax/store/LongMap", "checkValue", "(J)V"⟩ : MethodName)) hown (mvT hZ (hw _ (List.mem_of_getElem? (i := 58) rfl))) (mvT hZ (hw _ (List.mem_of_getElem? (i := 59) rfl))) (mvT hZ (hw _ (List.mem_of_getElem? (i := 16) rfl))) (mvT hZ (hw _ (List.mem_of_getElem? (i := 60) rfl))) (by decide) (backOf (W := 0) (rm12 l Z a0 hw [] u3 h0 n0 Z0 hv) hZ (hw _ (List.mem_of_getElem? (i := 60) rfl)) (hw _ (List.mem_of_getElem? (i := 16) rfl)) (by decide) (by decide)) (g := (mkF m 1 #[.val (.ref ob), .val (.long u1), .second, .val (.long u3), .second, .unset] [(.long u3)])) rfl (by rw [hml]; rfl) (argsL := [(.long u3)]) (rest := []) (lenOf own_pd6 rfl) rfl (by show 2 * 0 + _ ≤ _; exact Nat.le_of_eq rfl) (hb hby d11_1) (fun _ _ => ⟨rfl, e0, (by decide : 0 + 0 ≤ _), (by decide : 0 + 0 ≤ _)⟩)
  dsimp only [Pt.U, Pt.locs, Pt.cells, Pt.slots] at X46 l46 y46 z46 st46 hQ46
  rw [l46, y46, z46] at X46
  obtain ⟨rfl, Nq46, eq46⟩ := hQ46
  have N46 := Fr.app N0 Nq46
  refine own_st st46 ?_
  show own_Go _ _ _ _ (T46.setTop (mkF m 4 #[.val (.ref ob), .val (.long u1), .second, .val (.long u3), .second, .unset] []))
  refine own_st (fun _ k => XS.aloadN X46.here hx rfl (hb hby d11_4) rfl rfl k) ?_
  show own_Go _ _ _ _ (T46.setTop (mkF m 5 #[.val (.ref ob), .val (.long u1), .second, .val (.long u3), .second, .unset] [(.ref ob)]))
  refine own_st (fun _ k => XS.lloadN X46.here hx rfl (hb hby d11_5) rfl k) ?_
  show own_Go _ _ _ _ (T46.setTop (mkF m 6 #[.val (.ref ob), .val (.long u1), .second, .val (.long u3), .second, .unset] [(.long u1), (.ref ob)]))
  obtain ⟨cq47, q47, q47'⟩ := E_ob.cell
  obtain ⟨_, _, ⟨T47, L47, k47, n47⟩, -, X47, ⟨Lc47, hQ47, l47, y47, z47⟩, st47⟩ := X46.privateBack hx (y := (⟨"quillvax/store/LongMap", "slotOf", "(J)I"⟩ : MethodName)) hown (mvT hZ (hw _ (List.mem_of_getElem? (i := 39) rfl))) (mvT hZ (hw _ (List.mem_of_getElem? (i := 40) rfl))) (own_sel (C := "quillvax/store/LongMap") (r := (⟨"quillvax/store/LongMap", "remove", "(J)J"⟩ : MethodName)) rfl (mvT hZ (hw _ (List.mem_of_getElem? (i := 37) rfl))) (Cond.privateMethod_at (mvP hZ (hw _ (List.mem_of_getElem? (i := 41) rfl)) (args := #[]))) (mvT hZ (hw _ (List.mem_of_getElem? (i := 40) rfl))) (by decide)) (Cond.privateMethod_at (mvP hZ (hw _ (List.mem_of_getElem? (i := 41) rfl)) (args := #[]))) (mvT hZ (hw _ (List.mem_of_getElem? (i := 42) rfl))) (by decide) (backOf (W := 0) (rm8 l Z a0 hw [] ob ka wa kk kw K W u1 j h0 n0 Z0 E_ob F_keys F_values F_slotBits V_ka V_wa hfind) hZ (hw _ (List.mem_of_getElem? (i := 42) rfl)) (hw _ (List.mem_of_getElem? (i := 16) rfl)) (by decide) (by decide)) (g := (mkF m 6 #[.val (.ref ob), .val (.long u1), .second, .val (.long u3), .second, .unset] [(.long u1), (.ref ob)])) rfl (by rw [hml]; rfl) (Steps.refl _) (a := ob) (by rw [eq46]; exact q47) q47' (argsL := [(.long u1)]) (rest := []) (lenOf own_pd5 rfl) rfl (by show 2 * 0 + _ ≤ _; exact Nat.le_of_eq rfl) (hb hby d11_6) (fun _ _ => ⟨rfl, eq46, (by decide : 0 + 0 ≤ _), (by decide : 0 + 0 ≤ _)⟩)
  dsimp only [Pt.U, Pt.locs, Pt.cells, Pt.slots] at X47 l47 y47 z47 st47 hQ47
  rw [l47, y47, z47] at X47
  obtain ⟨rfl, Nq47, eq47⟩ := hQ47
  have N47 := Fr.app N46 Nq47
  refine own_tr st47 ?_
  show own_Go _ _ _ _ (T47.setTop (mkF m 9 #[.val (.ref ob), .val (.long u1), .second, .val (.long u3), .second, .unset] [(.int (Int32.ofNat j))]))
  refine own_st (fun _ k => XS.istore X47.here hx rfl (hb hby d11_9) rfl (l' := #[.val (.ref ob), .val (.long u1), .second, .val (.long u3), .second, .val (.int (Int32.ofNat j))]) rfl k) ?_
  show own_Go _ _ _ _ (T47.setTop (mkF m 11 #[.val (.ref ob), .val (.long u1), .second, .val (.long u3), .second, .val (.int (Int32.ofNat j))] []))
  refine own_st (fun _ k => XS.aloadN X47.here hx rfl (hb hby d11_11) rfl rfl k) ?_
  show own_Go _ _ _ _ (T47.setTop (mkF m 12 #[.val (.ref ob), .val (.long u1), .second, .val (.long u3), .second, .val (.int (Int32.ofNat j))] [(.ref ob)]))
  obtain ⟨T48, X48, e48, st48⟩ := getF X47 hx hZ hown (host := "") (Or.inl (hw _ (List.mem_of_getElem? (i := 25) rfl))) Via.refl eq47 F_values (g := (mkF m 12 #[.val (.ref ob), .val (.long u1), .second, .val (.long u3), .second, .val (.int (Int32.ofNat j))] [(.ref ob)])) rfl rfl (hb hby d11_12)
  refine own_st st48 ?_
  show own_Go _ _ _ _ (T48.setTop (mkF m 15 #[.val (.ref ob), .val (.long u1), .second, .val (.long u3), .second, .val (.int (Int32.ofNat j))] [(.ref wa)]))
  refine own_st (fun _ k => XS.iload X48.here hx rfl (hb hby d11_15) rfl k) ?_
  show own_Go _ _ _ _ (T48.setTop (mkF m 17 #[.val (.ref ob), .val (.long u1), .second, .val (.long u3), .second, .val (.int (Int32.ofNat j))] [(.int (Int32.ofNat j)), (.ref wa)]))
  obtain ⟨cl49, Ar49, -, Sz49, Nn49, Hs49, -⟩ := id V_wa
  have hin49 : ¬ ((Int32.ofNat j) < 0 ∨ cl49.slots.size ≤ ((Int32.ofNat j)).toNatClampNeg) := inb_of Sz49 ⟨(own_ofN j hj).2.1, (own_ofN j hj).2.2⟩
  have hat49 : cl49.slots[((Int32.ofNat j)).toNatClampNeg]? = some (.long (W j)) := Hs49.at hin49 (by rw [(own_ofN j hj).1]; exact own_vs_get _ _ hj)
  refine own_st (X48.laload hx (j := (Int32.ofNat j)) (v := (.long (W j))) (by rw [e48]; exact Ar49.1) (State.isArrayOf_alike hZ.alike Ar49.2.1) Ar49.2.2 hin49 hat49 (g := (mkF m 17 #[.val (.ref ob), .val (.long u1), .second, .val (.long u3), .second, .val (.int (Int32.ofNat j))] [(.int (Int32.ofNat j)), (.ref wa)])) rfl rfl (hb hby d11_17)) ?_
  show own_Go _ _ _ _ (T48.setTop (mkF m 18 #[.val (.ref ob), .val (.long u1), .second, .val (.long u3), .second, .val (.int (Int32.ofNat j))] [(.long (W j))]))
  refine own_st (fun _ k => XS.lconst X48.here hx rfl (hb hby d11_18) k) ?_
  show own_Go _ _ _ _ (T48.setTop (mkF m 19 #[.val (.ref ob), .val (.long u1), .second, .val (.long u3), .second, .val (.int (Int32.ofNat j))] [(.long (0 : Int64)), (.long (W j))]))
  refine own_st (fun _ k => XS.lcmp X48.here hx rfl (hb hby d11_19) rfl k) ?_
  show own_Go _ _ _ _ (T48.setTop (mkF m 20 #[.val (.ref ob), .val (.long u1), .second, .val (.long u3), .second, .val (.int (Int32.ofNat j))] [(.int (lcmpW (W j) (0 : Int64)))]))
  refine own_st (fun _ k => XS.ifNo X48.here hx rfl (hb hby d11_20) rfl ((if0 _ _).trans (teq ((lw_eq _ _).mpr hW0)).2) k) ?_
  show own_Go _ _ _ _ (T48.setTop (mkF m 23 #[.val (.ref ob), .val (.long u1), .second, .val (.long u3), .second, .val (.int (Int32.ofNat j))] []))
  refine own_st (fun _ k => XS.aloadN X48.here hx rfl (hb hby d11_23) rfl rfl k) ?_
  show own_Go _ _ _ _ (T48.setTop (mkF m 24 #[.val (.ref ob), .val (.long u1), .second, .val (.long u3), .second, .val (.int (Int32.ofNat j))] [(.ref ob)]))
  refine own_st (fun _ k => XS.iload X48.here hx rfl (hb hby d11_24) rfl k) ?_
  show own_Go _ _ _ _ (T48.setTop (mkF m 26 #[.val (.ref ob), .val (.long u1), .second, .val (.long u3), .second, .val (.int (Int32.ofNat j))] [(.int (Int32.ofNat j)), (.ref ob)]))
  refine own_st (fun _ k => XS.lloadN X48.here hx rfl (hb hby d11_26) rfl k) ?_
  show own_Go _ _ _ _ (T48.setTop (mkF m 27 #[.val (.ref ob), .val (.long u1), .second, .val (.long u3), .second, .val (.int (Int32.ofNat j))] [(.long u1), (.int (Int32.ofNat j)), (.ref ob)]))
  refine own_st (fun _ k => XS.lloadN X48.here hx rfl (hb hby d11_27) rfl k) ?_
  show own_Go _ _ _ _ (T48.setTop (mkF m 28 #[.val (.ref ob), .val (.long u1), .second, .val (.long u3), .second, .val (.int (Int32.ofNat j))] [(.long u3), (.long u1), (.int (Int32.ofNat j)), (.ref ob)]))
  obtain ⟨cq50, q50, q50'⟩ := E_ob.cell
  obtain ⟨_, _, ⟨T50, L50, k50, n50⟩, -, X50, ⟨Lc50, hQ50, l50, y50, z50⟩, st50⟩ := X48.privateBack hx (y := (⟨"quillvax/store/LongMap", "putNew", "(IJJ)V"⟩ : MethodName)) hown (mvT hZ (hw _ (List.mem_of_getElem? (i := 61) rfl))) (mvT hZ (hw _ (List.mem_of_getElem? (i := 62) rfl))) (own_sel (C := "quillvax/store/LongMap") (r := (⟨"quillvax/store/LongMap", "remove", "(J)J"⟩ : MethodName)) rfl (mvT hZ (hw _ (List.mem_of_getElem? (i := 37) rfl))) (Cond.privateMethod_at (mvP hZ (hw _ (List.mem_of_getElem? (i := 63) rfl)) (args := #[]))) (mvT hZ (hw _ (List.mem_of_getElem? (i := 62) rfl))) (by decide)) (Cond.privateMethod_at (mvP hZ (hw _ (List.mem_of_getElem? (i := 63) rfl)) (args := #[]))) (mvT hZ (hw _ (List.mem_of_getElem? (i := 64) rfl))) (by decide) (backOf (W := 0) (rm13 l Z a0 hw [] ob ka wa kk kw K W j u1 u3 sz h0 n0 Z0 E_ob F_keys F_values F_slotBits F_size V_ka V_wa gnob gnka gnwa ne1 ne2 ne3 hj hsz) hZ (hw _ (List.mem_of_getElem? (i := 64) rfl)) (hw _ (List.mem_of_getElem? (i := 16) rfl)) (by decide) (by decide)) (g := (mkF m 28 #[.val (.ref ob), .val (.long u1), .second, .val (.long u3), .second, .val (.int (Int32.ofNat j))] [(.long u3), (.long u1), (.int (Int32.ofNat j)), (.ref ob)])) rfl (by rw [hml]; rfl) (Steps.refl _) (a := ob) (by rw [e48]; exact q50) q50' (argsL := [(.int (Int32.ofNat j)), (.long u1), (.long u3)]) (rest := []) (lenOf own_pd7 rfl) rfl (by show 2 * 0 + _ ≤ _; exact Nat.le_of_eq rfl) (hb hby d11_28) (fun _ _ => ⟨rfl, e48, (by decide : 0 + 0 ≤ _), (by decide : 0 + 0 ≤ _)⟩)
  dsimp only [Pt.U, Pt.locs, Pt.cells, Pt.slots] at X50 l50 y50 z50 st50 hQ50
  rw [l50, y50, z50] at X50
  obtain ⟨rfl, Nq50, Kq50, Eq50, Fq50_keys, Fq50_values, Fq50_slotBits, Fq50_size, Vk50, Vw50⟩ := hQ50
  have N50 := Fr.app N47 Nq50
  refine own_tr st50 ?_
  have z50_E_ob := E_ob.keep Kq50
  have Z50 : n0 ≤ T50.heap.size := Nat.le_trans Z0 Kq50.1
  have Kk50 : Keep h0 T50.heap [ob, ka, wa] := K0.trans Kq50 (allS (Or.inl (by simp)) (allS (Or.inl (by simp)) (allS (Or.inl (by simp)) all0)))
  show own_Go _ _ _ _ (T50.setTop (mkF m 31 #[.val (.ref ob), .val (.long u1), .second, .val (.long u3), .second, .val (.int (Int32.ofNat j))] []))
  refine own_st (fun _ k => XS.goto X50.here hx rfl (pc0 := 31) (pc' := 42) rfl (hb hby d11_31) (by decide) (by decide) k) ?_
  show own_Go _ _ _ _ (T50.setTop (mkF m 42 #[.val (.ref ob), .val (.long u1), .second, .val (.long u3), .second, .val (.int (Int32.ofNat j))] []))
  obtain ⟨fs, hr, hrun, hended, hW, hsame⟩ := X50.leave (v := none) (fun _ => rfl)
  refine own_out (X50.returnOut hx Bd.returns (hb hby d11_42) hr) ⟨hrun, hended, _, _, rfl, ?_, ⟨_, rfl⟩, hW, hsame.mono (by decide) (by decide)⟩
  show Q11 Z ob ka wa kk kw K W u1 u3 j sz h0 n0 _ T50.heap _
  exact ⟨rfl, N50, Kk50, z50_E_ob, Fq50_keys, Fq50_values, Fq50_slotBits, Fq50_size, Vk50, Vw50⟩
theorem d7_0 : decode prog_39_method_5_code 0 = .ok (.aload_n 0, 1) := by decide +kernel
theorem d7_1 : decode prog_39_method_5_code 1 = .ok (.lload_n 1, 1) := by decide +kernel
theorem d7_2 : decode prog_39_method_5_code 2 = .ok (.invokevirtual 26, 3) := by decide +kernel
theorem d7_5 : decode prog_39_method_5_code 5 = .ok (.istore_n 3, 1) := by decide +kernel
theorem d7_6 : decode prog_39_method_5_code 6 = .ok (.aload_n 0, 1) := by decide +kernel
theorem d7_7 : decode prog_39_method_5_code 7 = .ok (.getfield 13, 3) := by decide +kernel
theorem d7_10 : decode prog_39_method_5_code 10 = .ok (.iload_n 3, 1) := by decide +kernel
theorem d7_11 : decode prog_39_method_5_code 11 = .ok (.laload, 1) := by decide +kernel
theorem d7_12 : decode prog_39_method_5_code 12 = .ok (.lstore 4, 2) := by decide +kernel
theorem d7_14 : decode prog_39_method_5_code 14 = .ok (.lload 4, 2) := by decide +kernel
theorem d7_16 : decode prog_39_method_5_code 16 = .ok (.lconst 0, 1) := by decide +kernel
theorem d7_17 : decode prog_39_method_5_code 17 = .ok (.lcmp, 1) := by decide +kernel
theorem d7_18 : decode prog_39_method_5_code 18 = .ok (.ifCond .ne 5, 3) := by decide +kernel
theorem d7_21 : decode prog_39_method_5_code 21 = .ok (.lconst 0, 1) := by decide +kernel
theorem d7_22 : decode prog_39_method_5_code 22 = .ok (.lreturn, 1) := by decide +kernel
theorem d7_23 : decode prog_39_method_5_code 23 = .ok (.aload_n 0, 1) := by decide +kernel
theorem d7_24 : decode prog_39_method_5_code 24 = .ok (.getfield 9, 3) := by decide +kernel
theorem d7_27 : decode prog_39_method_5_code 27 = .ok (.arraylength, 1) := by decide +kernel
theorem d7_28 : decode prog_39_method_5_code 28 = .ok (.iconst 1, 1) := by decide +kernel
theorem d7_29 : decode prog_39_method_5_code 29 = .ok (.isub, 1) := by decide +kernel
theorem d7_30 : decode prog_39_method_5_code 30 = .ok (.istore 6, 2) := by decide +kernel
theorem d7_32 : decode prog_39_method_5_code 32 = .ok (.aload_n 0, 1) := by decide +kernel
theorem d7_33 : decode prog_39_method_5_code 33 = .ok (.getfield 13, 3) := by decide +kernel
theorem d7_36 : decode prog_39_method_5_code 36 = .ok (.iload_n 3, 1) := by decide +kernel
theorem d7_37 : decode prog_39_method_5_code 37 = .ok (.lconst 0, 1) := by decide +kernel
theorem d7_38 : decode prog_39_method_5_code 38 = .ok (.lastore, 1) := by decide +kernel
theorem d7_39 : decode prog_39_method_5_code 39 = .ok (.aload_n 0, 1) := by decide +kernel
theorem d7_40 : decode prog_39_method_5_code 40 = .ok (.dup, 1) := by decide +kernel
theorem d7_41 : decode prog_39_method_5_code 41 = .ok (.getfield 38, 3) := by decide +kernel
theorem d7_44 : decode prog_39_method_5_code 44 = .ok (.iconst 1, 1) := by decide +kernel
theorem d7_45 : decode prog_39_method_5_code 45 = .ok (.isub, 1) := by decide +kernel
theorem d7_46 : decode prog_39_method_5_code 46 = .ok (.putfield 38, 3) := by decide +kernel
theorem d7_49 : decode prog_39_method_5_code 49 = .ok (.iload_n 3, 1) := by decide +kernel
theorem d7_50 : decode prog_39_method_5_code 50 = .ok (.iconst 1, 1) := by decide +kernel
theorem d7_51 : decode prog_39_method_5_code 51 = .ok (.iadd, 1) := by decide +kernel
theorem d7_52 : decode prog_39_method_5_code 52 = .ok (.iload 6, 2) := by decide +kernel
theorem d7_54 : decode prog_39_method_5_code 54 = .ok (.iand, 1) := by decide +kernel
theorem d7_55 : decode prog_39_method_5_code 55 = .ok (.istore 7, 2) := by decide +kernel
theorem d7_57 : decode prog_39_method_5_code 57 = .ok (.aload_n 0, 1) := by decide +kernel
theorem d7_58 : decode prog_39_method_5_code 58 = .ok (.getfield 13, 3) := by decide +kernel
theorem d7_61 : decode prog_39_method_5_code 61 = .ok (.iload 7, 2) := by decide +kernel
theorem d7_63 : decode prog_39_method_5_code 63 = .ok (.laload, 1) := by decide +kernel
theorem d7_64 : decode prog_39_method_5_code 64 = .ok (.lconst 0, 1) := by decide +kernel
theorem d7_65 : decode prog_39_method_5_code 65 = .ok (.lcmp, 1) := by decide +kernel
theorem d7_66 : decode prog_39_method_5_code 66 = .ok (.ifCond .eq 79, 3) := by decide +kernel
theorem d7_69 : decode prog_39_method_5_code 69 = .ok (.iload 7, 2) := by decide +kernel
theorem d7_71 : decode prog_39_method_5_code 71 = .ok (.aload_n 0, 1) := by decide +kernel
theorem d7_72 : decode prog_39_method_5_code 72 = .ok (.aload_n 0, 1) := by decide +kernel
theorem d7_73 : decode prog_39_method_5_code 73 = .ok (.getfield 9, 3) := by decide +kernel
theorem d7_76 : decode prog_39_method_5_code 76 = .ok (.iload 7, 2) := by decide +kernel
theorem d7_78 : decode prog_39_method_5_code 78 = .ok (.laload, 1) := by decide +kernel
theorem d7_79 : decode prog_39_method_5_code 79 = .ok (.invokevirtual 41, 3) := by decide +kernel
theorem d7_82 : decode prog_39_method_5_code 82 = .ok (.isub, 1) := by decide +kernel
theorem d7_83 : decode prog_39_method_5_code 83 = .ok (.iload 6, 2) := by decide +kernel
theorem d7_85 : decode prog_39_method_5_code 85 = .ok (.iand, 1) := by decide +kernel
theorem d7_86 : decode prog_39_method_5_code 86 = .ok (.iload 7, 2) := by decide +kernel
theorem d7_88 : decode prog_39_method_5_code 88 = .ok (.iload_n 3, 1) := by decide +kernel
theorem d7_89 : decode prog_39_method_5_code 89 = .ok (.isub, 1) := by decide +kernel
theorem d7_90 : decode prog_39_method_5_code 90 = .ok (.iload 6, 2) := by decide +kernel
theorem d7_92 : decode prog_39_method_5_code 92 = .ok (.iand, 1) := by decide +kernel
theorem d7_93 : decode prog_39_method_5_code 93 = .ok (.if_icmp .lt 40, 3) := by decide +kernel
theorem d7_96 : decode prog_39_method_5_code 96 = .ok (.aload_n 0, 1) := by decide +kernel
theorem d7_97 : decode prog_39_method_5_code 97 = .ok (.getfield 9, 3) := by decide +kernel
theorem d7_100 : decode prog_39_method_5_code 100 = .ok (.iload_n 3, 1) := by decide +kernel
theorem d7_101 : decode prog_39_method_5_code 101 = .ok (.aload_n 0, 1) := by decide +kernel
theorem d7_102 : decode prog_39_method_5_code 102 = .ok (.getfield 9, 3) := by decide +kernel
theorem d7_105 : decode prog_39_method_5_code 105 = .ok (.iload 7, 2) := by decide +kernel
theorem d7_107 : decode prog_39_method_5_code 107 = .ok (.laload, 1) := by decide +kernel
theorem d7_108 : decode prog_39_method_5_code 108 = .ok (.lastore, 1) := by decide +kernel
theorem d7_109 : decode prog_39_method_5_code 109 = .ok (.aload_n 0, 1) := by decide +kernel
theorem d7_110 : decode prog_39_method_5_code 110 = .ok (.getfield 13, 3) := by decide +kernel
theorem d7_113 : decode prog_39_method_5_code 113 = .ok (.iload_n 3, 1) := by decide +kernel
theorem d7_114 : decode prog_39_method_5_code 114 = .ok (.aload_n 0, 1) := by decide +kernel
theorem d7_115 : decode prog_39_method_5_code 115 = .ok (.getfield 13, 3) := by decide +kernel
theorem d7_118 : decode prog_39_method_5_code 118 = .ok (.iload 7, 2) := by decide +kernel
theorem d7_120 : decode prog_39_method_5_code 120 = .ok (.laload, 1) := by decide +kernel
theorem d7_121 : decode prog_39_method_5_code 121 = .ok (.lastore, 1) := by decide +kernel
theorem d7_122 : decode prog_39_method_5_code 122 = .ok (.aload_n 0, 1) := by decide +kernel
theorem d7_123 : decode prog_39_method_5_code 123 = .ok (.getfield 13, 3) := by decide +kernel
theorem d7_126 : decode prog_39_method_5_code 126 = .ok (.iload 7, 2) := by decide +kernel
theorem d7_128 : decode prog_39_method_5_code 128 = .ok (.lconst 0, 1) := by decide +kernel
theorem d7_129 : decode prog_39_method_5_code 129 = .ok (.lastore, 1) := by decide +kernel
theorem d7_130 : decode prog_39_method_5_code 130 = .ok (.iload 7, 2) := by decide +kernel
theorem d7_132 : decode prog_39_method_5_code 132 = .ok (.istore_n 3, 1) := by decide +kernel
theorem d7_133 : decode prog_39_method_5_code 133 = .ok (.iload 7, 2) := by decide +kernel
theorem d7_135 : decode prog_39_method_5_code 135 = .ok (.iconst 1, 1) := by decide +kernel
theorem d7_136 : decode prog_39_method_5_code 136 = .ok (.iadd, 1) := by decide +kernel
theorem d7_137 : decode prog_39_method_5_code 137 = .ok (.iload 6, 2) := by decide +kernel
theorem d7_139 : decode prog_39_method_5_code 139 = .ok (.iand, 1) := by decide +kernel
theorem d7_140 : decode prog_39_method_5_code 140 = .ok (.istore 7, 2) := by decide +kernel
theorem d7_142 : decode prog_39_method_5_code 142 = .ok (.goto (-85), 3) := by decide +kernel
theorem d7_145 : decode prog_39_method_5_code 145 = .ok (.lload 4, 2) := by decide +kernel
theorem d7_147 : decode prog_39_method_5_code 147 = .ok (.lreturn, 1) := by decide +kernel
def Q7a (Z : State) (ob : Addr) (ka : Addr) (wa : Addr) (kk : ClassId) (kw : ClassId) (K : Nat → Int64) (W : Nat → Int64) (u1 : Int64) (j : Nat) (h0 : Heap) (n0 : Nat) (v : Option Value) (h : Heap) (L : List Loc) : Prop := v = some (.long (0 : Int64)) ∧ Fr n0 L ∧ h = h0
theorem ef_7a (m : MethodId) (x0 : Addr) (x1 : Int64) : entryFrame m #[(.ref x0), (.long x1)] 8 = mkF m 0 #[.val (.ref x0), .val (.long x1), .second, .unset, .unset, .unset, .unset, .unset] [] := by first | (simp [entryFrame, mkF, argsToLocals, Value.category]; done) | rfl
set_option maxRecDepth 65536 in
set_option maxHeartbeats 40000000 in
theorem rm7a (l : Launch) (Z : State) (a0 : Array Value) (hw : ∀ d ∈ tables_1, d.before a0 Z = true) (ws : List Jvm.Cond) (ob : Addr) (ka : Addr) (wa : Addr) (kk : ClassId) (kw : ClassId) (K : Nat → Int64) (W : Nat → Int64) (u1 : Int64) (j : Nat) (h0 : Heap) (n0 : Nat) (Z0 : n0 ≤ h0.size) (E_ob : Exa Z h0 ob "quillvax/store/LongMap") (F_keys : Fld Z h0 ob "quillvax/store/LongMap" "keys" "[J" (.ref ka)) (F_values : Fld Z h0 ob "quillvax/store/LongMap" "values" "[J" (.ref wa)) (F_slotBits : Fld Z h0 ob "quillvax/store/LongMap" "slotBits" "I" (.int (4 : Int32))) (V_ka : Arv Z h0 ka kk .long (16 : Int32) (own_vs K) (.long (0 : Int64))) (V_wa : Arv Z h0 wa kw .long (16 : Int32) (own_vs W) (.long (0 : Int64))) (hfind : own_find K W u1 16 (own_home u1) = some j) (hW0 : W j = 0) :
    MetFree l (⟨"quillvax/store/LongMap", "remove", "(J)J"⟩ : MethodName) (head1 (Jvm.Cond.code (⟨"quillvax/store/LongMap", "remove", "(J)J"⟩ : MethodName) prog_39_method_5_code 8 (some .long) :: ws) ({ frames := 2, cells := 0, slots := 0, locals := 60 } : Room)) (fun a U => a = #[(.ref ob), (.long u1)] ∧ Z.Warmed39 U.vm ∧ U.heap = h0) (fun _ _ _ _ _ => True) (fun _ U o U' => ∃ v L, o = .returned v ∧ Q7a Z ob ka wa kk kw K W u1 j h0 n0 v U'.heap L ∧ FrameEnd U o U' L ({ frames := 2, cells := 0, slots := 0, locals := 60 } : Room).cells ({ frames := 2, cells := 0, slots := 0, locals := 60 } : Room).slots) := by
  refine MetFree.of_bodySF (plainFor_of_name own_pn2) hisR ?_
  intro p e s m args below meth c s₁ Bd hml0 hP hK
  obtain ⟨rfl, hZ, hh⟩ := hP
  have hx := Bd.exec
  have hby := Bd.bytes
  have hml : c.maxLocals = 8 := hml0
  have hown : s.vm.findClass "quillvax/store/LongMap" = some m.cls := findClass_of_methodNamed Bd.named
  have hnm := (name_of_methodNamed Bd.named Bd.method).1
  have X0 : Stand p l e ({ frames := 2, cells := 0, slots := 0, locals := 60 } : Room) s m #[(.ref ob), (.long u1)] below meth c s₁ [] 0 0 := Stand.of_body Bd
  have e0 : s₁.heap = h0 := by rw [← hh, Bd.state]; rfl
  have N0 := Fr.nil n0
  refine own_in ?_
  refine own_st (fun _ k => castTop (ef_7a m ob u1) k) ?_
  have hj : j < 16 := own_find_lt K W u1 16 _ j (own_hom16 u1) hfind
  have K0 : Keep h0 h0 [] := Keep.refl h0 []
  show own_Go _ _ _ _ (s₁.setTop (mkF m 0 #[.val (.ref ob), .val (.long u1), .second, .unset, .unset, .unset, .unset, .unset] []))
  refine own_st (fun _ k => XS.aloadN X0.here hx rfl (hb hby d7_0) rfl rfl k) ?_
  show own_Go _ _ _ _ (s₁.setTop (mkF m 1 #[.val (.ref ob), .val (.long u1), .second, .unset, .unset, .unset, .unset, .unset] [(.ref ob)]))
  refine own_st (fun _ k => XS.lloadN X0.here hx rfl (hb hby d7_1) rfl k) ?_
  show own_Go _ _ _ _ (s₁.setTop (mkF m 2 #[.val (.ref ob), .val (.long u1), .second, .unset, .unset, .unset, .unset, .unset] [(.long u1), (.ref ob)]))
  obtain ⟨cq51, q51, q51'⟩ := E_ob.cell
  obtain ⟨_, _, ⟨T51, L51, k51, n51⟩, -, X51, ⟨Lc51, hQ51, l51, y51, z51⟩, st51⟩ := X0.privateBack hx (y := (⟨"quillvax/store/LongMap", "slotOf", "(J)I"⟩ : MethodName)) hown (mvT hZ (hw _ (List.mem_of_getElem? (i := 39) rfl))) (mvT hZ (hw _ (List.mem_of_getElem? (i := 40) rfl))) (own_sel (C := "quillvax/store/LongMap") (r := (⟨"quillvax/store/LongMap", "remove", "(J)J"⟩ : MethodName)) rfl (mvT hZ (hw _ (List.mem_of_getElem? (i := 37) rfl))) (Cond.privateMethod_at (mvP hZ (hw _ (List.mem_of_getElem? (i := 41) rfl)) (args := #[]))) (mvT hZ (hw _ (List.mem_of_getElem? (i := 40) rfl))) (by decide)) (Cond.privateMethod_at (mvP hZ (hw _ (List.mem_of_getElem? (i := 41) rfl)) (args := #[]))) (mvT hZ (hw _ (List.mem_of_getElem? (i := 42) rfl))) (by decide) (backOf (W := 0) (rm8 l Z a0 hw [] ob ka wa kk kw K W u1 j h0 n0 Z0 E_ob F_keys F_values F_slotBits V_ka V_wa hfind) hZ (hw _ (List.mem_of_getElem? (i := 42) rfl)) (hw _ (List.mem_of_getElem? (i := 16) rfl)) (by decide) (by decide)) (g := (mkF m 2 #[.val (.ref ob), .val (.long u1), .second, .unset, .unset, .unset, .unset, .unset] [(.long u1), (.ref ob)])) rfl (by rw [hml]; rfl) (Steps.refl _) (a := ob) (by rw [e0]; exact q51) q51' (argsL := [(.long u1)]) (rest := []) (lenOf own_pd5 rfl) rfl (by show 2 * 0 + _ ≤ _; exact Nat.le_of_eq rfl) (hb hby d7_2) (fun _ _ => ⟨rfl, e0, (by decide : 0 + 0 ≤ _), (by decide : 0 + 0 ≤ _)⟩)
  dsimp only [Pt.U, Pt.locs, Pt.cells, Pt.slots] at X51 l51 y51 z51 st51 hQ51
  rw [l51, y51, z51] at X51
  obtain ⟨rfl, Nq51, eq51⟩ := hQ51
  have N51 := Fr.app N0 Nq51
  refine own_tr st51 ?_
  show own_Go _ _ _ _ (T51.setTop (mkF m 5 #[.val (.ref ob), .val (.long u1), .second, .unset, .unset, .unset, .unset, .unset] [(.int (Int32.ofNat j))]))
  refine own_st (fun _ k => XS.istoreN X51.here hx rfl (hb hby d7_5) rfl (l' := #[.val (.ref ob), .val (.long u1), .second, .val (.int (Int32.ofNat j)), .unset, .unset, .unset, .unset]) rfl k) ?_
  show own_Go _ _ _ _ (T51.setTop (mkF m 6 #[.val (.ref ob), .val (.long u1), .second, .val (.int (Int32.ofNat j)), .unset, .unset, .unset, .unset] []))
  refine own_st (fun _ k => XS.aloadN X51.here hx rfl (hb hby d7_6) rfl rfl k) ?_
  show own_Go _ _ _ _ (T51.setTop (mkF m 7 #[.val (.ref ob), .val (.long u1), .second, .val (.int (Int32.ofNat j)), .unset, .unset, .unset, .unset] [(.ref ob)]))
  obtain ⟨T52, X52, e52, st52⟩ := getF X51 hx hZ hown (host := "") (Or.inl (hw _ (List.mem_of_getElem? (i := 25) rfl))) Via.refl eq51 F_values (g := (mkF m 7 #[.val (.ref ob), .val (.long u1), .second, .val (.int (Int32.ofNat j)), .unset, .unset, .unset, .unset] [(.ref ob)])) rfl rfl (hb hby d7_7)
  refine own_st st52 ?_
  show own_Go _ _ _ _ (T52.setTop (mkF m 10 #[.val (.ref ob), .val (.long u1), .second, .val (.int (Int32.ofNat j)), .unset, .unset, .unset, .unset] [(.ref wa)]))
  refine own_st (fun _ k => XS.iloadN X52.here hx rfl (hb hby d7_10) rfl k) ?_
  show own_Go _ _ _ _ (T52.setTop (mkF m 11 #[.val (.ref ob), .val (.long u1), .second, .val (.int (Int32.ofNat j)), .unset, .unset, .unset, .unset] [(.int (Int32.ofNat j)), (.ref wa)]))
  obtain ⟨cl53, Ar53, -, Sz53, Nn53, Hs53, -⟩ := id V_wa
  have hin53 : ¬ ((Int32.ofNat j) < 0 ∨ cl53.slots.size ≤ ((Int32.ofNat j)).toNatClampNeg) := inb_of Sz53 ⟨(own_ofN j hj).2.1, (own_ofN j hj).2.2⟩
  have hat53 : cl53.slots[((Int32.ofNat j)).toNatClampNeg]? = some (.long (W j)) := Hs53.at hin53 (by rw [(own_ofN j hj).1]; exact own_vs_get _ _ hj)
  refine own_st (X52.laload hx (j := (Int32.ofNat j)) (v := (.long (W j))) (by rw [e52]; exact Ar53.1) (State.isArrayOf_alike hZ.alike Ar53.2.1) Ar53.2.2 hin53 hat53 (g := (mkF m 11 #[.val (.ref ob), .val (.long u1), .second, .val (.int (Int32.ofNat j)), .unset, .unset, .unset, .unset] [(.int (Int32.ofNat j)), (.ref wa)])) rfl rfl (hb hby d7_11)) ?_
  show own_Go _ _ _ _ (T52.setTop (mkF m 12 #[.val (.ref ob), .val (.long u1), .second, .val (.int (Int32.ofNat j)), .unset, .unset, .unset, .unset] [(.long (W j))]))
  refine own_st (fun _ k => XS.lstore X52.here hx rfl (hb hby d7_12) rfl (l' := #[.val (.ref ob), .val (.long u1), .second, .val (.int (Int32.ofNat j)), .val (.long (W j)), .second, .unset, .unset]) rfl k) ?_
  show own_Go _ _ _ _ (T52.setTop (mkF m 14 #[.val (.ref ob), .val (.long u1), .second, .val (.int (Int32.ofNat j)), .val (.long (W j)), .second, .unset, .unset] []))
  refine own_st (fun _ k => XS.lload X52.here hx rfl (hb hby d7_14) rfl k) ?_
  show own_Go _ _ _ _ (T52.setTop (mkF m 16 #[.val (.ref ob), .val (.long u1), .second, .val (.int (Int32.ofNat j)), .val (.long (W j)), .second, .unset, .unset] [(.long (W j))]))
  refine own_st (fun _ k => XS.lconst X52.here hx rfl (hb hby d7_16) k) ?_
  show own_Go _ _ _ _ (T52.setTop (mkF m 17 #[.val (.ref ob), .val (.long u1), .second, .val (.int (Int32.ofNat j)), .val (.long (W j)), .second, .unset, .unset] [(.long (0 : Int64)), (.long (W j))]))
  refine own_st (fun _ k => XS.lcmp X52.here hx rfl (hb hby d7_17) rfl k) ?_
  show own_Go _ _ _ _ (T52.setTop (mkF m 18 #[.val (.ref ob), .val (.long u1), .second, .val (.int (Int32.ofNat j)), .val (.long (W j)), .second, .unset, .unset] [(.int (lcmpW (W j) (0 : Int64)))]))
  refine own_st (fun _ k => XS.ifNo X52.here hx rfl (hb hby d7_18) rfl ((if0 _ _).trans (teq ((lw_eq _ _).mpr hW0)).2) k) ?_
  show own_Go _ _ _ _ (T52.setTop (mkF m 21 #[.val (.ref ob), .val (.long u1), .second, .val (.int (Int32.ofNat j)), .val (.long (W j)), .second, .unset, .unset] []))
  refine own_st (fun _ k => XS.lconst X52.here hx rfl (hb hby d7_21) k) ?_
  show own_Go _ _ _ _ (T52.setTop (mkF m 22 #[.val (.ref ob), .val (.long u1), .second, .val (.int (Int32.ofNat j)), .val (.long (W j)), .second, .unset, .unset] [(.long (0 : Int64))]))
  obtain ⟨fs, hr, hrun, hended, hW, hsame⟩ := X52.leave (v := some (.long (0 : Int64))) (fun h => by rw [Bd.returns] at h; cases h)
  refine own_out (X52.lreturnOut hx Bd.returns (hb hby d7_22) hr) ⟨hrun, hended, _, _, rfl, ?_, ⟨_, rfl⟩, hW, hsame.mono (by decide) (by decide)⟩
  show Q7a Z ob ka wa kk kw K W u1 j h0 n0 _ T52.heap _
  exact ⟨rfl, N51, e52⟩
def Q7 (Z : State) (ob : Addr) (ka : Addr) (wa : Addr) (kk : ClassId) (kw : ClassId) (K : Nat → Int64) (W : Nat → Int64) (u1 : Int64) (j : Nat) (K' : Nat → Int64) (W' : Nat → Int64) (sz : Int32) (h0 : Heap) (n0 : Nat) (v : Option Value) (h : Heap) (L : List Loc) : Prop := v = some (.long (W j)) ∧ Fr n0 L ∧ Keep h0 h [ob, ka, wa] ∧ Exa Z h ob "quillvax/store/LongMap" ∧ Fld Z h ob "quillvax/store/LongMap" "keys" "[J" (.ref ka) ∧ Fld Z h ob "quillvax/store/LongMap" "values" "[J" (.ref wa) ∧ Fld Z h ob "quillvax/store/LongMap" "slotBits" "I" (.int (4 : Int32)) ∧ Arv Z h ka kk .long (16 : Int32) (own_vs K') (.long (0 : Int64)) ∧ Arv Z h wa kw .long (16 : Int32) (own_vs W') (.long (0 : Int64))
theorem ef_7 (m : MethodId) (x0 : Addr) (x1 : Int64) : entryFrame m #[(.ref x0), (.long x1)] 8 = mkF m 0 #[.val (.ref x0), .val (.long x1), .second, .unset, .unset, .unset, .unset, .unset] [] := by first | (simp [entryFrame, mkF, argsToLocals, Value.category]; done) | rfl
set_option maxRecDepth 65536 in
set_option maxHeartbeats 40000000 in
theorem rm7 (l : Launch) (Z : State) (a0 : Array Value) (hw : ∀ d ∈ tables_1, d.before a0 Z = true) (ws : List Jvm.Cond) (ob : Addr) (ka : Addr) (wa : Addr) (kk : ClassId) (kw : ClassId) (K : Nat → Int64) (W : Nat → Int64) (u1 : Int64) (j : Nat) (K' : Nat → Int64) (W' : Nat → Int64) (sz : Int32) (h0 : Heap) (n0 : Nat) (Z0 : n0 ≤ h0.size) (E_ob : Exa Z h0 ob "quillvax/store/LongMap") (F_keys : Fld Z h0 ob "quillvax/store/LongMap" "keys" "[J" (.ref ka)) (F_values : Fld Z h0 ob "quillvax/store/LongMap" "values" "[J" (.ref wa)) (F_slotBits : Fld Z h0 ob "quillvax/store/LongMap" "slotBits" "I" (.int (4 : Int32))) (F_size : Fld Z h0 ob "quillvax/store/LongMap" "size" "I" (.int sz)) (V_ka : Arv Z h0 ka kk .long (16 : Int32) (own_vs K) (.long (0 : Int64))) (V_wa : Arv Z h0 wa kw .long (16 : Int32) (own_vs W) (.long (0 : Int64))) (gnob : n0 ≤ ob) (gnka : n0 ≤ ka) (gnwa : n0 ≤ wa) (ne1 : ob ≠ ka) (ne2 : ob ≠ wa) (ne3 : ka ≠ wa) (hfind : own_find K W u1 16 (own_home u1) = some j) (hWn : ¬ W j = 0) (hrm : own_rml 16 K (own_upd W j (0 : Int64)) j ((j + 1) % 16) = some (K', W')) :
    MetFree l (⟨"quillvax/store/LongMap", "remove", "(J)J"⟩ : MethodName) (head1 (Jvm.Cond.code (⟨"quillvax/store/LongMap", "remove", "(J)J"⟩ : MethodName) prog_39_method_5_code 8 (some .long) :: ws) ({ frames := 2, cells := 0, slots := 0, locals := 60 } : Room)) (fun a U => a = #[(.ref ob), (.long u1)] ∧ Z.Warmed39 U.vm ∧ U.heap = h0) (fun _ _ _ _ _ => True) (fun _ U o U' => ∃ v L, o = .returned v ∧ Q7 Z ob ka wa kk kw K W u1 j K' W' sz h0 n0 v U'.heap L ∧ FrameEnd U o U' L ({ frames := 2, cells := 0, slots := 0, locals := 60 } : Room).cells ({ frames := 2, cells := 0, slots := 0, locals := 60 } : Room).slots) := by
  refine MetFree.of_bodySF (plainFor_of_name own_pn2) hisR ?_
  intro p e s m args below meth c s₁ Bd hml0 hP hK
  obtain ⟨rfl, hZ, hh⟩ := hP
  have hx := Bd.exec
  have hby := Bd.bytes
  have hml : c.maxLocals = 8 := hml0
  have hown : s.vm.findClass "quillvax/store/LongMap" = some m.cls := findClass_of_methodNamed Bd.named
  have hnm := (name_of_methodNamed Bd.named Bd.method).1
  have X0 : Stand p l e ({ frames := 2, cells := 0, slots := 0, locals := 60 } : Room) s m #[(.ref ob), (.long u1)] below meth c s₁ [] 0 0 := Stand.of_body Bd
  have e0 : s₁.heap = h0 := by rw [← hh, Bd.state]; rfl
  have N0 := Fr.nil n0
  refine own_in ?_
  refine own_st (fun _ k => castTop (ef_7 m ob u1) k) ?_
  have hj : j < 16 := own_find_lt K W u1 16 _ j (own_hom16 u1) hfind
  have K0 : Keep h0 h0 [ob, ka, wa] := Keep.refl h0 [ob, ka, wa]
  show own_Go _ _ _ _ (s₁.setTop (mkF m 0 #[.val (.ref ob), .val (.long u1), .second, .unset, .unset, .unset, .unset, .unset] []))
  refine own_st (fun _ k => XS.aloadN X0.here hx rfl (hb hby d7_0) rfl rfl k) ?_
  show own_Go _ _ _ _ (s₁.setTop (mkF m 1 #[.val (.ref ob), .val (.long u1), .second, .unset, .unset, .unset, .unset, .unset] [(.ref ob)]))
  refine own_st (fun _ k => XS.lloadN X0.here hx rfl (hb hby d7_1) rfl k) ?_
  show own_Go _ _ _ _ (s₁.setTop (mkF m 2 #[.val (.ref ob), .val (.long u1), .second, .unset, .unset, .unset, .unset, .unset] [(.long u1), (.ref ob)]))
  obtain ⟨cq54, q54, q54'⟩ := E_ob.cell
  obtain ⟨_, _, ⟨T54, L54, k54, n54⟩, -, X54, ⟨Lc54, hQ54, l54, y54, z54⟩, st54⟩ := X0.privateBack hx (y := (⟨"quillvax/store/LongMap", "slotOf", "(J)I"⟩ : MethodName)) hown (mvT hZ (hw _ (List.mem_of_getElem? (i := 39) rfl))) (mvT hZ (hw _ (List.mem_of_getElem? (i := 40) rfl))) (own_sel (C := "quillvax/store/LongMap") (r := (⟨"quillvax/store/LongMap", "remove", "(J)J"⟩ : MethodName)) rfl (mvT hZ (hw _ (List.mem_of_getElem? (i := 37) rfl))) (Cond.privateMethod_at (mvP hZ (hw _ (List.mem_of_getElem? (i := 41) rfl)) (args := #[]))) (mvT hZ (hw _ (List.mem_of_getElem? (i := 40) rfl))) (by decide)) (Cond.privateMethod_at (mvP hZ (hw _ (List.mem_of_getElem? (i := 41) rfl)) (args := #[]))) (mvT hZ (hw _ (List.mem_of_getElem? (i := 42) rfl))) (by decide) (backOf (W := 0) (rm8 l Z a0 hw [] ob ka wa kk kw K W u1 j h0 n0 Z0 E_ob F_keys F_values F_slotBits V_ka V_wa hfind) hZ (hw _ (List.mem_of_getElem? (i := 42) rfl)) (hw _ (List.mem_of_getElem? (i := 16) rfl)) (by decide) (by decide)) (g := (mkF m 2 #[.val (.ref ob), .val (.long u1), .second, .unset, .unset, .unset, .unset, .unset] [(.long u1), (.ref ob)])) rfl (by rw [hml]; rfl) (Steps.refl _) (a := ob) (by rw [e0]; exact q54) q54' (argsL := [(.long u1)]) (rest := []) (lenOf own_pd5 rfl) rfl (by show 2 * 0 + _ ≤ _; exact Nat.le_of_eq rfl) (hb hby d7_2) (fun _ _ => ⟨rfl, e0, (by decide : 0 + 0 ≤ _), (by decide : 0 + 0 ≤ _)⟩)
  dsimp only [Pt.U, Pt.locs, Pt.cells, Pt.slots] at X54 l54 y54 z54 st54 hQ54
  rw [l54, y54, z54] at X54
  obtain ⟨rfl, Nq54, eq54⟩ := hQ54
  have N54 := Fr.app N0 Nq54
  refine own_tr st54 ?_
  show own_Go _ _ _ _ (T54.setTop (mkF m 5 #[.val (.ref ob), .val (.long u1), .second, .unset, .unset, .unset, .unset, .unset] [(.int (Int32.ofNat j))]))
  refine own_st (fun _ k => XS.istoreN X54.here hx rfl (hb hby d7_5) rfl (l' := #[.val (.ref ob), .val (.long u1), .second, .val (.int (Int32.ofNat j)), .unset, .unset, .unset, .unset]) rfl k) ?_
  show own_Go _ _ _ _ (T54.setTop (mkF m 6 #[.val (.ref ob), .val (.long u1), .second, .val (.int (Int32.ofNat j)), .unset, .unset, .unset, .unset] []))
  refine own_st (fun _ k => XS.aloadN X54.here hx rfl (hb hby d7_6) rfl rfl k) ?_
  show own_Go _ _ _ _ (T54.setTop (mkF m 7 #[.val (.ref ob), .val (.long u1), .second, .val (.int (Int32.ofNat j)), .unset, .unset, .unset, .unset] [(.ref ob)]))
  obtain ⟨T55, X55, e55, st55⟩ := getF X54 hx hZ hown (host := "") (Or.inl (hw _ (List.mem_of_getElem? (i := 25) rfl))) Via.refl eq54 F_values (g := (mkF m 7 #[.val (.ref ob), .val (.long u1), .second, .val (.int (Int32.ofNat j)), .unset, .unset, .unset, .unset] [(.ref ob)])) rfl rfl (hb hby d7_7)
  refine own_st st55 ?_
  show own_Go _ _ _ _ (T55.setTop (mkF m 10 #[.val (.ref ob), .val (.long u1), .second, .val (.int (Int32.ofNat j)), .unset, .unset, .unset, .unset] [(.ref wa)]))
  refine own_st (fun _ k => XS.iloadN X55.here hx rfl (hb hby d7_10) rfl k) ?_
  show own_Go _ _ _ _ (T55.setTop (mkF m 11 #[.val (.ref ob), .val (.long u1), .second, .val (.int (Int32.ofNat j)), .unset, .unset, .unset, .unset] [(.int (Int32.ofNat j)), (.ref wa)]))
  obtain ⟨cl56, Ar56, -, Sz56, Nn56, Hs56, -⟩ := id V_wa
  have hin56 : ¬ ((Int32.ofNat j) < 0 ∨ cl56.slots.size ≤ ((Int32.ofNat j)).toNatClampNeg) := inb_of Sz56 ⟨(own_ofN j hj).2.1, (own_ofN j hj).2.2⟩
  have hat56 : cl56.slots[((Int32.ofNat j)).toNatClampNeg]? = some (.long (W j)) := Hs56.at hin56 (by rw [(own_ofN j hj).1]; exact own_vs_get _ _ hj)
  refine own_st (X55.laload hx (j := (Int32.ofNat j)) (v := (.long (W j))) (by rw [e55]; exact Ar56.1) (State.isArrayOf_alike hZ.alike Ar56.2.1) Ar56.2.2 hin56 hat56 (g := (mkF m 11 #[.val (.ref ob), .val (.long u1), .second, .val (.int (Int32.ofNat j)), .unset, .unset, .unset, .unset] [(.int (Int32.ofNat j)), (.ref wa)])) rfl rfl (hb hby d7_11)) ?_
  show own_Go _ _ _ _ (T55.setTop (mkF m 12 #[.val (.ref ob), .val (.long u1), .second, .val (.int (Int32.ofNat j)), .unset, .unset, .unset, .unset] [(.long (W j))]))
  refine own_st (fun _ k => XS.lstore X55.here hx rfl (hb hby d7_12) rfl (l' := #[.val (.ref ob), .val (.long u1), .second, .val (.int (Int32.ofNat j)), .val (.long (W j)), .second, .unset, .unset]) rfl k) ?_
  show own_Go _ _ _ _ (T55.setTop (mkF m 14 #[.val (.ref ob), .val (.long u1), .second, .val (.int (Int32.ofNat j)), .val (.long (W j)), .second, .unset, .unset] []))
  refine own_st (fun _ k => XS.lload X55.here hx rfl (hb hby d7_14) rfl k) ?_
  show own_Go _ _ _ _ (T55.setTop (mkF m 16 #[.val (.ref ob), .val (.long u1), .second, .val (.int (Int32.ofNat j)), .val (.long (W j)), .second, .unset, .unset] [(.long (W j))]))
  refine own_st (fun _ k => XS.lconst X55.here hx rfl (hb hby d7_16) k) ?_
  show own_Go _ _ _ _ (T55.setTop (mkF m 17 #[.val (.ref ob), .val (.long u1), .second, .val (.int (Int32.ofNat j)), .val (.long (W j)), .second, .unset, .unset] [(.long (0 : Int64)), (.long (W j))]))
  refine own_st (fun _ k => XS.lcmp X55.here hx rfl (hb hby d7_17) rfl k) ?_
  show own_Go _ _ _ _ (T55.setTop (mkF m 18 #[.val (.ref ob), .val (.long u1), .second, .val (.int (Int32.ofNat j)), .val (.long (W j)), .second, .unset, .unset] [(.int (lcmpW (W j) (0 : Int64)))]))
  refine own_st (fun _ k => XS.ifYes X55.here hx rfl (pc0 := 18) (pc' := 23) rfl (hb hby d7_18) rfl ((if0 _ _).trans (feq (fun q => hWn ((lw_eq _ _).mp q))).2) (by decide) (by decide) k) ?_
  show own_Go _ _ _ _ (T55.setTop (mkF m 23 #[.val (.ref ob), .val (.long u1), .second, .val (.int (Int32.ofNat j)), .val (.long (W j)), .second, .unset, .unset] []))
  refine own_st (fun _ k => XS.aloadN X55.here hx rfl (hb hby d7_23) rfl rfl k) ?_
  show own_Go _ _ _ _ (T55.setTop (mkF m 24 #[.val (.ref ob), .val (.long u1), .second, .val (.int (Int32.ofNat j)), .val (.long (W j)), .second, .unset, .unset] [(.ref ob)]))
  obtain ⟨T57, X57, e57, st57⟩ := getF X55 hx hZ hown (host := "") (Or.inl (hw _ (List.mem_of_getElem? (i := 23) rfl))) Via.refl e55 F_keys (g := (mkF m 24 #[.val (.ref ob), .val (.long u1), .second, .val (.int (Int32.ofNat j)), .val (.long (W j)), .second, .unset, .unset] [(.ref ob)])) rfl rfl (hb hby d7_24)
  refine own_st st57 ?_
  show own_Go _ _ _ _ (T57.setTop (mkF m 27 #[.val (.ref ob), .val (.long u1), .second, .val (.int (Int32.ofNat j)), .val (.long (W j)), .second, .unset, .unset] [(.ref ka)]))
  obtain ⟨cl58, Ar58, -, Sz58, Nn58, -, -⟩ := id V_ka
  refine own_st (X57.arraylength hx (by rw [e57]; exact Ar58.1) (State.isArrayOf_alike hZ.alike Ar58.2.1) (g := (mkF m 27 #[.val (.ref ob), .val (.long u1), .second, .val (.int (Int32.ofNat j)), .val (.long (W j)), .second, .unset, .unset] [(.ref ka)])) rfl rfl (hb hby d7_27)) ?_
  rw [len_of Sz58 Nn58]
  show own_Go _ _ _ _ (T57.setTop (mkF m 28 #[.val (.ref ob), .val (.long u1), .second, .val (.int (Int32.ofNat j)), .val (.long (W j)), .second, .unset, .unset] [(.int (16 : Int32))]))
  refine own_st (fun _ k => XS.iconst X57.here hx rfl (hb hby d7_28) k) ?_
  show own_Go _ _ _ _ (T57.setTop (mkF m 29 #[.val (.ref ob), .val (.long u1), .second, .val (.int (Int32.ofNat j)), .val (.long (W j)), .second, .unset, .unset] [(.int (1 : Int32)), (.int (16 : Int32))]))
  refine own_st (fun _ k => XS.isub X57.here hx rfl (hb hby d7_29) rfl k) ?_
  show own_Go _ _ _ _ (T57.setTop (mkF m 30 #[.val (.ref ob), .val (.long u1), .second, .val (.int (Int32.ofNat j)), .val (.long (W j)), .second, .unset, .unset] [(.int (15 : Int32))]))
  refine own_st (fun _ k => XS.istore X57.here hx rfl (hb hby d7_30) rfl (l' := #[.val (.ref ob), .val (.long u1), .second, .val (.int (Int32.ofNat j)), .val (.long (W j)), .second, .val (.int (15 : Int32)), .unset]) rfl k) ?_
  show own_Go _ _ _ _ (T57.setTop (mkF m 32 #[.val (.ref ob), .val (.long u1), .second, .val (.int (Int32.ofNat j)), .val (.long (W j)), .second, .val (.int (15 : Int32)), .unset] []))
  refine own_st (fun _ k => XS.aloadN X57.here hx rfl (hb hby d7_32) rfl rfl k) ?_
  show own_Go _ _ _ _ (T57.setTop (mkF m 33 #[.val (.ref ob), .val (.long u1), .second, .val (.int (Int32.ofNat j)), .val (.long (W j)), .second, .val (.int (15 : Int32)), .unset] [(.ref ob)]))
  obtain ⟨T59, X59, e59, st59⟩ := getF X57 hx hZ hown (host := "") (Or.inl (hw _ (List.mem_of_getElem? (i := 25) rfl))) Via.refl e57 F_values (g := (mkF m 33 #[.val (.ref ob), .val (.long u1), .second, .val (.int (Int32.ofNat j)), .val (.long (W j)), .second, .val (.int (15 : Int32)), .unset] [(.ref ob)])) rfl rfl (hb hby d7_33)
  refine own_st st59 ?_
  show own_Go _ _ _ _ (T59.setTop (mkF m 36 #[.val (.ref ob), .val (.long u1), .second, .val (.int (Int32.ofNat j)), .val (.long (W j)), .second, .val (.int (15 : Int32)), .unset] [(.ref wa)]))
  refine own_st (fun _ k => XS.iloadN X59.here hx rfl (hb hby d7_36) rfl k) ?_
  show own_Go _ _ _ _ (T59.setTop (mkF m 37 #[.val (.ref ob), .val (.long u1), .second, .val (.int (Int32.ofNat j)), .val (.long (W j)), .second, .val (.int (15 : Int32)), .unset] [(.int (Int32.ofNat j)), (.ref wa)]))
  refine own_st (fun _ k => XS.lconst X59.here hx rfl (hb hby d7_37) k) ?_
  show own_Go _ _ _ _ (T59.setTop (mkF m 38 #[.val (.ref ob), .val (.long u1), .second, .val (.int (Int32.ofNat j)), .val (.long (W j)), .second, .val (.int (15 : Int32)), .unset] [(.long (0 : Int64)), (.int (Int32.ofNat j)), (.ref wa)]))
  obtain ⟨cl60, Ar60, Kd60, Sz60, Nn60, Hs60, Gs60⟩ := id V_wa
  obtain ⟨T60, h60, X60, e60, W60, st60⟩ := stJ X59 hx hZ e59 Ar60 (j := (Int32.ofNat j)) (inb_of Sz60 ⟨(own_ofN j hj).2.1, (own_ofN j hj).2.2⟩) (g := (mkF m 38 #[.val (.ref ob), .val (.long u1), .second, .val (.int (Int32.ofNat j)), .val (.long (W j)), .second, .val (.int (15 : Int32)), .unset] [(.long (0 : Int64)), (.int (Int32.ofNat j)), (.ref wa)])) rfl rfl (hb hby d7_38)
  refine own_st st60 ?_
  have V60 : Arv Z h60 wa kw .long (16 : Int32) (own_vs (own_upd W j (0 : Int64))) (.long (0 : Int64)) := by
    have q := Arv.set Ar60 Kd60 Sz60 Nn60 Hs60 Gs60 (v := .long (0 : Int64)) rfl W60 j (own_ofN j hj).1 (by rw [own_vs_len]; exact hj)
    rw [own_vs_set _ _ _ hj] at q; exact q
  have y60_E_ob := E_ob.wr W60
  have y60_F_ob_keys := F_keys.other W60 (Or.inl ne2)
  have y60_F_ob_values := F_values.other W60 (Or.inl ne2)
  have y60_F_ob_slotBits := F_slotBits.other W60 (Or.inl ne2)
  have y60_F_ob_size := F_size.other W60 (Or.inl ne2)
  have y60_V_ka := V_ka.other W60 ne3
  have Z60 : n0 ≤ h60.size := Nat.le_trans Z0 (Nat.le_of_eq W60.size.symm)
  have N60 := Fr.snoc X60 N54 gnwa
  have K60 : Keep h0 h60 [ob, ka, wa] := K0.wr W60 (Or.inl (by simp))
  show own_Go _ _ _ _ (T60.setTop (mkF m 39 #[.val (.ref ob), .val (.long u1), .second, .val (.int (Int32.ofNat j)), .val (.long (W j)), .second, .val (.int (15 : Int32)), .unset] []))
  refine own_st (fun _ k => XS.aloadN X60.here hx rfl (hb hby d7_39) rfl rfl k) ?_
  show own_Go _ _ _ _ (T60.setTop (mkF m 40 #[.val (.ref ob), .val (.long u1), .second, .val (.int (Int32.ofNat j)), .val (.long (W j)), .second, .val (.int (15 : Int32)), .unset] [(.ref ob)]))
  refine own_st (fun _ k => XS.dup X60.here hx rfl (hb hby d7_40) rfl rfl k) ?_
  show own_Go _ _ _ _ (T60.setTop (mkF m 41 #[.val (.ref ob), .val (.long u1), .second, .val (.int (Int32.ofNat j)), .val (.long (W j)), .second, .val (.int (15 : Int32)), .unset] [(.ref ob), (.ref ob)]))
  obtain ⟨T61, X61, e61, st61⟩ := getF X60 hx hZ hown (host := "") (Or.inl (hw _ (List.mem_of_getElem? (i := 65) rfl))) Via.refl e60 y60_F_ob_size (g := (mkF m 41 #[.val (.ref ob), .val (.long u1), .second, .val (.int (Int32.ofNat j)), .val (.long (W j)), .second, .val (.int (15 : Int32)), .unset] [(.ref ob), (.ref ob)])) rfl rfl (hb hby d7_41)
  refine own_st st61 ?_
  show own_Go _ _ _ _ (T61.setTop (mkF m 44 #[.val (.ref ob), .val (.long u1), .second, .val (.int (Int32.ofNat j)), .val (.long (W j)), .second, .val (.int (15 : Int32)), .unset] [(.int sz), (.ref ob)]))
  refine own_st (fun _ k => XS.iconst X61.here hx rfl (hb hby d7_44) k) ?_
  show own_Go _ _ _ _ (T61.setTop (mkF m 45 #[.val (.ref ob), .val (.long u1), .second, .val (.int (Int32.ofNat j)), .val (.long (W j)), .second, .val (.int (15 : Int32)), .unset] [(.int (1 : Int32)), (.int sz), (.ref ob)]))
  refine own_st (fun _ k => XS.isub X61.here hx rfl (hb hby d7_45) rfl k) ?_
  show own_Go _ _ _ _ (T61.setTop (mkF m 46 #[.val (.ref ob), .val (.long u1), .second, .val (.int (Int32.ofNat j)), .val (.long (W j)), .second, .val (.int (15 : Int32)), .unset] [(.int (sz - (1 : Int32))), (.ref ob)]))
  obtain ⟨T62, h62, X62, e62, W62, st62⟩ := putF X61 hx hZ hown (host := "") (Or.inl (hw _ (List.mem_of_getElem? (i := 65) rfl))) Via.refl e61 y60_F_ob_size y60_E_ob (Or.inl (hw _ (List.mem_of_getElem? (i := 66) rfl))) (hw _ (List.mem_of_getElem? (i := 15) rfl)) (ty := .int) (by decide) rfl rfl (g := (mkF m 46 #[.val (.ref ob), .val (.long u1), .second, .val (.int (Int32.ofNat j)), .val (.long (W j)), .second, .val (.int (15 : Int32)), .unset] [(.int (sz - (1 : Int32))), (.ref ob)])) rfl rfl (hb hby d7_46)
  refine own_st st62 ?_
  have Fw62 : Fld Z h62 ob "quillvax/store/LongMap" "size" "I" (.int (sz - (1 : Int32))) := y60_F_ob_size.same W62
  have y62_E_ob := y60_E_ob.wr W62
  have y62_F_ob_keys := y60_F_ob_keys.other W62 (Or.inr (slot_ne (Or.inl (hw _ (List.mem_of_getElem? (i := 24) rfl))) (Or.inl (hw _ (List.mem_of_getElem? (i := 66) rfl))) (by decide) (t := (.array .long)) (t' := .int) (by decide) (by decide)))
  have y62_F_ob_values := y60_F_ob_values.other W62 (Or.inr (slot_ne (Or.inl (hw _ (List.mem_of_getElem? (i := 26) rfl))) (Or.inl (hw _ (List.mem_of_getElem? (i := 66) rfl))) (by decide) (t := (.array .long)) (t' := .int) (by decide) (by decide)))
  have y62_F_ob_slotBits := y60_F_ob_slotBits.other W62 (Or.inr (slot_ne (Or.inl (hw _ (List.mem_of_getElem? (i := 33) rfl))) (Or.inl (hw _ (List.mem_of_getElem? (i := 66) rfl))) (by decide) (t := .int) (t' := .int) (by decide) (by decide)))
  have y62_V_ka := y60_V_ka.other W62 (Ne.symm ne1)
  have y62_V_wa := V60.other W62 (Ne.symm ne2)
  have Z62 : n0 ≤ h62.size := Nat.le_trans Z60 (Nat.le_of_eq W62.size.symm)
  have N62 := Fr.snoc X62 N60 gnob
  have K62 : Keep h0 h62 [ob, ka, wa] := K60.wr W62 (Or.inl (by simp))
  show own_Go _ _ _ _ (T62.setTop (mkF m 49 #[.val (.ref ob), .val (.long u1), .second, .val (.int (Int32.ofNat j)), .val (.long (W j)), .second, .val (.int (15 : Int32)), .unset] []))
  refine own_st (fun _ k => XS.iloadN X62.here hx rfl (hb hby d7_49) rfl k) ?_
  show own_Go _ _ _ _ (T62.setTop (mkF m 50 #[.val (.ref ob), .val (.long u1), .second, .val (.int (Int32.ofNat j)), .val (.long (W j)), .second, .val (.int (15 : Int32)), .unset] [(.int (Int32.ofNat j))]))
  refine own_st (fun _ k => XS.iconst X62.here hx rfl (hb hby d7_50) k) ?_
  show own_Go _ _ _ _ (T62.setTop (mkF m 51 #[.val (.ref ob), .val (.long u1), .second, .val (.int (Int32.ofNat j)), .val (.long (W j)), .second, .val (.int (15 : Int32)), .unset] [(.int (1 : Int32)), (.int (Int32.ofNat j))]))
  refine own_st (fun _ k => XS.iadd X62.here hx rfl (hb hby d7_51) rfl k) ?_
  show own_Go _ _ _ _ (T62.setTop (mkF m 52 #[.val (.ref ob), .val (.long u1), .second, .val (.int (Int32.ofNat j)), .val (.long (W j)), .second, .val (.int (15 : Int32)), .unset] [(.int ((Int32.ofNat j) + (1 : Int32)))]))
  refine own_st (fun _ k => XS.iload X62.here hx rfl (hb hby d7_52) rfl k) ?_
  show own_Go _ _ _ _ (T62.setTop (mkF m 54 #[.val (.ref ob), .val (.long u1), .second, .val (.int (Int32.ofNat j)), .val (.long (W j)), .second, .val (.int (15 : Int32)), .unset] [(.int (15 : Int32)), (.int ((Int32.ofNat j) + (1 : Int32)))]))
  refine own_st (fun _ k => XS.iand X62.here hx rfl (hb hby d7_54) rfl k) ?_
  rw [own_nxt j hj]
  show own_Go _ _ _ _ (T62.setTop (mkF m 55 #[.val (.ref ob), .val (.long u1), .second, .val (.int (Int32.ofNat j)), .val (.long (W j)), .second, .val (.int (15 : Int32)), .unset] [(.int (Int32.ofNat ((j + 1) % 16)))]))
  refine own_st (fun _ k => XS.istore X62.here hx rfl (hb hby d7_55) rfl (l' := #[.val (.ref ob), .val (.long u1), .second, .val (.int (Int32.ofNat j)), .val (.long (W j)), .second, .val (.int (15 : Int32)), .val (.int (Int32.ofNat ((j + 1) % 16)))]) rfl k) ?_
  show own_Go _ _ _ _ (T62.setTop (mkF m 57 #[.val (.ref ob), .val (.long u1), .second, .val (.int (Int32.ofNat j)), .val (.long (W j)), .second, .val (.int (15 : Int32)), .val (.int (Int32.ofNat ((j + 1) % 16)))] []))
  have LP : ∀ (f i q : Nat) (Kc Wc : Nat → Int64) (P : State → Outcome → Prop) (TL : State) (hL : Heap) (lcs : List Loc), i < 16 → q < 16 → own_rml f Kc Wc i q = some (K', W') → Stand p l e ({ frames := 2, cells := 0, slots := 0, locals := 60 } : Room) s m #[(.ref ob), (.long u1)] below meth c TL lcs 0 0 → TL.heap = hL → Arv Z hL ka kk .long (16 : Int32) (own_vs Kc) (.long (0 : Int64)) → Arv Z hL wa kw .long (16 : Int32) (own_vs Wc) (.long (0 : Int64)) → Exa Z hL ob "quillvax/store/LongMap" → Fld Z hL ob "quillvax/store/LongMap" "keys" "[J" (.ref ka) → Fld Z hL ob "quillvax/store/LongMap" "values" "[J" (.ref wa) → Fld Z hL ob "quillvax/store/LongMap" "slotBits" "I" (.int (4 : Int32)) → Fr n0 lcs → Keep h0 hL [ob, ka, wa] → n0 ≤ hL.size → (∀ (i2 q2 : Nat) (TM : State) (hM : Heap) (lcM : List Loc), Stand p l e ({ frames := 2, cells := 0, slots := 0, locals := 60 } : Room) s m #[(.ref ob), (.long u1)] below meth c TM lcM 0 0 → TM.heap = hM → Arv Z hM ka kk .long (16 : Int32) (own_vs K') (.long (0 : Int64)) → Arv Z hM wa kw .long (16 : Int32) (own_vs W') (.long (0 : Int64)) → Exa Z hM ob "quillvax/store/LongMap" → Fld Z hM ob "quillvax/store/LongMap" "keys" "[J" (.ref ka) → Fld Z hM ob "quillvax/store/LongMap" "values" "[J" (.ref wa) → Fld Z hM ob "quillvax/store/LongMap" "slotBits" "I" (.int (4 : Int32)) → Fr n0 lcM → Keep h0 hM [ob, ka, wa] → own_Go p.tables e below P (TM.setTop (mkF m 145 #[.val (.ref ob), .val (.long u1), .second, .val (.int (Int32.ofNat i2)), .val (.long (W j)), .second, .val (.int (15 : Int32)), .val (.int (Int32.ofNat q2))] []))) → own_Go p.tables e below P (TL.setTop (mkF m 57 #[.val (.ref ob), .val (.long u1), .second, .val (.int (Int32.ofNat i)), .val (.long (W j)), .second, .val (.int (15 : Int32)), .val (.int (Int32.ofNat q))] [])) := by
    intro f
    induction f with
    | zero => intro i q Kc Wc P TL hL lcs hi hq hr; simp [own_rml] at hr
    | succ f ih =>
      intro i q Kc Wc P TL hL lcs hi hq hr XL eL VkL VwL EL FkL FvL FsL NL KL ZL hG
      show own_Go _ _ _ _ (TL.setTop (mkF m 57 #[.val (.ref ob), .val (.long u1), .second, .val (.int (Int32.ofNat i)), .val (.long (W j)), .second, .val (.int (15 : Int32)), .val (.int (Int32.ofNat q))] []))
      refine own_st (fun _ k => XS.aloadN XL.here hx rfl (hb hby d7_57) rfl rfl k) ?_
      show own_Go _ _ _ _ (TL.setTop (mkF m 58 #[.val (.ref ob), .val (.long u1), .second, .val (.int (Int32.ofNat i)), .val (.long (W j)), .second, .val (.int (15 : Int32)), .val (.int (Int32.ofNat q))] [(.ref ob)]))
      obtain ⟨T63, X63, e63, st63⟩ := getF XL hx hZ hown (host := "") (Or.inl (hw _ (List.mem_of_getElem? (i := 25) rfl))) Via.refl eL FvL (g := (mkF m 58 #[.val (.ref ob), .val (.long u1), .second, .val (.int (Int32.ofNat i)), .val (.long (W j)), .second, .val (.int (15 : Int32)), .val (.int (Int32.ofNat q))] [(.ref ob)])) rfl rfl (hb hby d7_58)
      refine own_st st63 ?_
      show own_Go _ _ _ _ (T63.setTop (mkF m 61 #[.val (.ref ob), .val (.long u1), .second, .val (.int (Int32.ofNat i)), .val (.long (W j)), .second, .val (.int (15 : Int32)), .val (.int (Int32.ofNat q))] [(.ref wa)]))
      refine own_st (fun _ k => XS.iload X63.here hx rfl (hb hby d7_61) rfl k) ?_
      show own_Go _ _ _ _ (T63.setTop (mkF m 63 #[.val (.ref ob), .val (.long u1), .second, .val (.int (Int32.ofNat i)), .val (.long (W j)), .second, .val (.int (15 : Int32)), .val (.int (Int32.ofNat q))] [(.int (Int32.ofNat q)), (.ref wa)]))
      obtain ⟨cl64, Ar64, -, Sz64, Nn64, Hs64, -⟩ := id VwL
      have hin64 : ¬ ((Int32.ofNat q) < 0 ∨ cl64.slots.size ≤ ((Int32.ofNat q)).toNatClampNeg) := inb_of Sz64 ⟨(own_ofN q hq).2.1, (own_ofN q hq).2.2⟩
      have hat64 : cl64.slots[((Int32.ofNat q)).toNatClampNeg]? = some (.long (Wc q)) := Hs64.at hin64 (by rw [(own_ofN q hq).1]; exact own_vs_get _ _ hq)
      refine own_st (X63.laload hx (j := (Int32.ofNat q)) (v := (.long (Wc q))) (by rw [e63]; exact Ar64.1) (State.isArrayOf_alike hZ.alike Ar64.2.1) Ar64.2.2 hin64 hat64 (g := (mkF m 63 #[.val (.ref ob), .val (.long u1), .second, .val (.int (Int32.ofNat i)), .val (.long (W j)), .second, .val (.int (15 : Int32)), .val (.int (Int32.ofNat q))] [(.int (Int32.ofNat q)), (.ref wa)])) rfl rfl (hb hby d7_63)) ?_
      show own_Go _ _ _ _ (T63.setTop (mkF m 64 #[.val (.ref ob), .val (.long u1), .second, .val (.int (Int32.ofNat i)), .val (.long (W j)), .second, .val (.int (15 : Int32)), .val (.int (Int32.ofNat q))] [(.long (Wc q))]))
      refine own_st (fun _ k => XS.lconst X63.here hx rfl (hb hby d7_64) k) ?_
      show own_Go _ _ _ _ (T63.setTop (mkF m 65 #[.val (.ref ob), .val (.long u1), .second, .val (.int (Int32.ofNat i)), .val (.long (W j)), .second, .val (.int (15 : Int32)), .val (.int (Int32.ofNat q))] [(.long (0 : Int64)), (.long (Wc q))]))
      refine own_st (fun _ k => XS.lcmp X63.here hx rfl (hb hby d7_65) rfl k) ?_
      show own_Go _ _ _ _ (T63.setTop (mkF m 66 #[.val (.ref ob), .val (.long u1), .second, .val (.int (Int32.ofNat i)), .val (.long (W j)), .second, .val (.int (15 : Int32)), .val (.int (Int32.ofNat q))] [(.int (lcmpW (Wc q) (0 : Int64)))]))
      by_cases hc65 : (lcmpW (Wc q) (0 : Int64)) = (0 : Int32)
      · skip
        refine own_st (fun _ k => XS.ifYes X63.here hx rfl (pc0 := 66) (pc' := 145) rfl (hb hby d7_66) rfl ((if0 _ _).trans (teq hc65).1) (by decide) (by decide) k) ?_
        show own_Go _ _ _ _ (T63.setTop (mkF m 145 #[.val (.ref ob), .val (.long u1), .second, .val (.int (Int32.ofNat i)), .val (.long (W j)), .second, .val (.int (15 : Int32)), .val (.int (Int32.ofNat q))] []))
        unfold own_rml at hr
        rw [if_pos ((lw_eq _ _).mp hc65)] at hr
        have hKK : Kc = K' := congrArg Prod.fst (Option.some.inj hr)
        have hWW : Wc = W' := congrArg Prod.snd (Option.some.inj hr)
        exact hG _ _ _ _ _ X63 e63 (hKK ▸ VkL) (hWW ▸ VwL) EL FkL FvL FsL NL KL
      · skip
        refine own_st (fun _ k => XS.ifNo X63.here hx rfl (hb hby d7_66) rfl ((if0 _ _).trans (feq hc65).1) k) ?_
        show own_Go _ _ _ _ (T63.setTop (mkF m 69 #[.val (.ref ob), .val (.long u1), .second, .val (.int (Int32.ofNat i)), .val (.long (W j)), .second, .val (.int (15 : Int32)), .val (.int (Int32.ofNat q))] []))
        refine own_st (fun _ k => XS.iload X63.here hx rfl (hb hby d7_69) rfl k) ?_
        show own_Go _ _ _ _ (T63.setTop (mkF m 71 #[.val (.ref ob), .val (.long u1), .second, .val (.int (Int32.ofNat i)), .val (.long (W j)), .second, .val (.int (15 : Int32)), .val (.int (Int32.ofNat q))] [(.int (Int32.ofNat q))]))
        refine own_st (fun _ k => XS.aloadN X63.here hx rfl (hb hby d7_71) rfl rfl k) ?_
        show own_Go _ _ _ _ (T63.setTop (mkF m 72 #[.val (.ref ob), .val (.long u1), .second, .val (.int (Int32.ofNat i)), .val (.long (W j)), .second, .val (.int (15 : Int32)), .val (.int (Int32.ofNat q))] [(.ref ob), (.int (Int32.ofNat q))]))
        refine own_st (fun _ k => XS.aloadN X63.here hx rfl (hb hby d7_72) rfl rfl k) ?_
        show own_Go _ _ _ _ (T63.setTop (mkF m 73 #[.val (.ref ob), .val (.long u1), .second, .val (.int (Int32.ofNat i)), .val (.long (W j)), .second, .val (.int (15 : Int32)), .val (.int (Int32.ofNat q))] [(.ref ob), (.ref ob), (.int (Int32.ofNat q))]))
        obtain ⟨T66, X66, e66, st66⟩ := getF X63 hx hZ hown (host := "") (Or.inl (hw _ (List.mem_of_getElem? (i := 23) rfl))) Via.refl e63 FkL (g := (mkF m 73 #[.val (.ref ob), .val (.long u1), .second, .val (.int (Int32.ofNat i)), .val (.long (W j)), .second, .val (.int (15 : Int32)), .val (.int (Int32.ofNat q))] [(.ref ob), (.ref ob), (.int (Int32.ofNat q))])) rfl rfl (hb hby d7_73)
        refine own_st st66 ?_
        show own_Go _ _ _ _ (T66.setTop (mkF m 76 #[.val (.ref ob), .val (.long u1), .second, .val (.int (Int32.ofNat i)), .val (.long (W j)), .second, .val (.int (15 : Int32)), .val (.int (Int32.ofNat q))] [(.ref ka), (.ref ob), (.int (Int32.ofNat q))]))
        refine own_st (fun _ k => XS.iload X66.here hx rfl (hb hby d7_76) rfl k) ?_
        show own_Go _ _ _ _ (T66.setTop (mkF m 78 #[.val (.ref ob), .val (.long u1), .second, .val (.int (Int32.ofNat i)), .val (.long (W j)), .second, .val (.int (15 : Int32)), .val (.int (Int32.ofNat q))] [(.int (Int32.ofNat q)), (.ref ka), (.ref ob), (.int (Int32.ofNat q))]))
        obtain ⟨cl67, Ar67, -, Sz67, Nn67, Hs67, -⟩ := id VkL
        have hin67 : ¬ ((Int32.ofNat q) < 0 ∨ cl67.slots.size ≤ ((Int32.ofNat q)).toNatClampNeg) := inb_of Sz67 ⟨(own_ofN q hq).2.1, (own_ofN q hq).2.2⟩
        have hat67 : cl67.slots[((Int32.ofNat q)).toNatClampNeg]? = some (.long (Kc q)) := Hs67.at hin67 (by rw [(own_ofN q hq).1]; exact own_vs_get _ _ hq)
        refine own_st (X66.laload hx (j := (Int32.ofNat q)) (v := (.long (Kc q))) (by rw [e66]; exact Ar67.1) (State.isArrayOf_alike hZ.alike Ar67.2.1) Ar67.2.2 hin67 hat67 (g := (mkF m 78 #[.val (.ref ob), .val (.long u1), .second, .val (.int (Int32.ofNat i)), .val (.long (W j)), .second, .val (.int (15 : Int32)), .val (.int (Int32.ofNat q))] [(.int (Int32.ofNat q)), (.ref ka), (.ref ob), (.int (Int32.ofNat q))])) rfl rfl (hb hby d7_78)) ?_
        show own_Go _ _ _ _ (T66.setTop (mkF m 79 #[.val (.ref ob), .val (.long u1), .second, .val (.int (Int32.ofNat i)), .val (.long (W j)), .second, .val (.int (15 : Int32)), .val (.int (Int32.ofNat q))] [(.long (Kc q)), (.ref ob), (.int (Int32.ofNat q))]))
        obtain ⟨cq68, q68, q68'⟩ := EL.cell
        obtain ⟨_, _, ⟨T68, L68, k68, n68⟩, -, X68, ⟨Lc68, hQ68, l68, y68, z68⟩, st68⟩ := X66.privateBack hx (y := (⟨"quillvax/store/LongMap", "homeOf", "(J)I"⟩ : MethodName)) hown (mvT hZ (hw _ (List.mem_of_getElem? (i := 43) rfl))) (mvT hZ (hw _ (List.mem_of_getElem? (i := 44) rfl))) (own_sel (C := "quillvax/store/LongMap") (r := (⟨"quillvax/store/LongMap", "remove", "(J)J"⟩ : MethodName)) rfl (mvT hZ (hw _ (List.mem_of_getElem? (i := 37) rfl))) (Cond.privateMethod_at (mvP hZ (hw _ (List.mem_of_getElem? (i := 45) rfl)) (args := #[]))) (mvT hZ (hw _ (List.mem_of_getElem? (i := 44) rfl))) (by decide)) (Cond.privateMethod_at (mvP hZ (hw _ (List.mem_of_getElem? (i := 45) rfl)) (args := #[]))) (mvT hZ (hw _ (List.mem_of_getElem? (i := 46) rfl))) (by decide) (backOf (W := 1) (rm9 l Z a0 hw [] ob (Kc q) hL n0 ZL FsL) hZ (hw _ (List.mem_of_getElem? (i := 46) rfl)) (hw _ (List.mem_of_getElem? (i := 16) rfl)) (by decide) (by decide)) (g := (mkF m 79 #[.val (.ref ob), .val (.long u1), .second, .val (.int (Int32.ofNat i)), .val (.long (W j)), .second, .val (.int (15 : Int32)), .val (.int (Int32.ofNat q))] [(.long (Kc q)), (.ref ob), (.int (Int32.ofNat q))])) rfl (by rw [hml]; rfl) (Steps.refl _) (a := ob) (by rw [e66]; exact q68) q68' (argsL := [(.long (Kc q))]) (rest := [(.int (Int32.ofNat q))]) (lenOf own_pd5 rfl) rfl (by show 2 * 0 + _ ≤ _; exact Nat.le_of_eq rfl) (hb hby d7_79) (fun _ _ => ⟨rfl, e66, (by decide : 0 + 0 ≤ _), (by decide : 0 + 0 ≤ _)⟩)
        dsimp only [Pt.U, Pt.locs, Pt.cells, Pt.slots] at X68 l68 y68 z68 st68 hQ68
        rw [l68, y68, z68] at X68
        obtain ⟨rfl, Nq68, eq68⟩ := hQ68
        have N68 := Fr.app NL Nq68
        refine own_tr st68 ?_
        rw [own_hoN (Kc q)]
        show own_Go _ _ _ _ (T68.setTop (mkF m 82 #[.val (.ref ob), .val (.long u1), .second, .val (.int (Int32.ofNat i)), .val (.long (W j)), .second, .val (.int (15 : Int32)), .val (.int (Int32.ofNat q))] [(.int (Int32.ofNat (own_home (Kc q)))), (.int (Int32.ofNat q))]))
        refine own_st (fun _ k => XS.isub X68.here hx rfl (hb hby d7_82) rfl k) ?_
        show own_Go _ _ _ _ (T68.setTop (mkF m 83 #[.val (.ref ob), .val (.long u1), .second, .val (.int (Int32.ofNat i)), .val (.long (W j)), .second, .val (.int (15 : Int32)), .val (.int (Int32.ofNat q))] [(.int ((Int32.ofNat q) - (Int32.ofNat (own_home (Kc q)))))]))
        refine own_st (fun _ k => XS.iload X68.here hx rfl (hb hby d7_83) rfl k) ?_
        show own_Go _ _ _ _ (T68.setTop (mkF m 85 #[.val (.ref ob), .val (.long u1), .second, .val (.int (Int32.ofNat i)), .val (.long (W j)), .second, .val (.int (15 : Int32)), .val (.int (Int32.ofNat q))] [(.int (15 : Int32)), (.int ((Int32.ofNat q) - (Int32.ofNat (own_home (Kc q)))))]))
        refine own_st (fun _ k => XS.iand X68.here hx rfl (hb hby d7_85) rfl k) ?_
        rw [own_dif q (own_home (Kc q)) hq (own_hom16 _)]
        show own_Go _ _ _ _ (T68.setTop (mkF m 86 #[.val (.ref ob), .val (.long u1), .second, .val (.int (Int32.ofNat i)), .val (.long (W j)), .second, .val (.int (15 : Int32)), .val (.int (Int32.ofNat q))] [(.int (Int32.ofNat ((q + 16 - (own_home (Kc q))) % 16)))]))
        refine own_st (fun _ k => XS.iload X68.here hx rfl (hb hby d7_86) rfl k) ?_
        show own_Go _ _ _ _ (T68.setTop (mkF m 88 #[.val (.ref ob), .val (.long u1), .second, .val (.int (Int32.ofNat i)), .val (.long (W j)), .second, .val (.int (15 : Int32)), .val (.int (Int32.ofNat q))] [(.int (Int32.ofNat q)), (.int (Int32.ofNat ((q + 16 - (own_home (Kc q))) % 16)))]))
        refine own_st (fun _ k => XS.iloadN X68.here hx rfl (hb hby d7_88) rfl k) ?_
        show own_Go _ _ _ _ (T68.setTop (mkF m 89 #[.val (.ref ob), .val (.long u1), .second, .val (.int (Int32.ofNat i)), .val (.long (W j)), .second, .val (.int (15 : Int32)), .val (.int (Int32.ofNat q))] [(.int (Int32.ofNat i)), (.int (Int32.ofNat q)), (.int (Int32.ofNat ((q + 16 - (own_home (Kc q))) % 16)))]))
        refine own_st (fun _ k => XS.isub X68.here hx rfl (hb hby d7_89) rfl k) ?_
        show own_Go _ _ _ _ (T68.setTop (mkF m 90 #[.val (.ref ob), .val (.long u1), .second, .val (.int (Int32.ofNat i)), .val (.long (W j)), .second, .val (.int (15 : Int32)), .val (.int (Int32.ofNat q))] [(.int ((Int32.ofNat q) - (Int32.ofNat i))), (.int (Int32.ofNat ((q + 16 - (own_home (Kc q))) % 16)))]))
        refine own_st (fun _ k => XS.iload X68.here hx rfl (hb hby d7_90) rfl k) ?_
        show own_Go _ _ _ _ (T68.setTop (mkF m 92 #[.val (.ref ob), .val (.long u1), .second, .val (.int (Int32.ofNat i)), .val (.long (W j)), .second, .val (.int (15 : Int32)), .val (.int (Int32.ofNat q))] [(.int (15 : Int32)), (.int ((Int32.ofNat q) - (Int32.ofNat i))), (.int (Int32.ofNat ((q + 16 - (own_home (Kc q))) % 16)))]))
        refine own_st (fun _ k => XS.iand X68.here hx rfl (hb hby d7_92) rfl k) ?_
        rw [own_dif q i hq hi]
        show own_Go _ _ _ _ (T68.setTop (mkF m 93 #[.val (.ref ob), .val (.long u1), .second, .val (.int (Int32.ofNat i)), .val (.long (W j)), .second, .val (.int (15 : Int32)), .val (.int (Int32.ofNat q))] [(.int (Int32.ofNat ((q + 16 - i) % 16))), (.int (Int32.ofNat ((q + 16 - (own_home (Kc q))) % 16)))]))
        by_cases hc69 : (Int32.ofNat ((q + 16 - (own_home (Kc q))) % 16)) < (Int32.ofNat ((q + 16 - i) % 16))
        · skip
          refine own_st (fun _ k => XS.icmpYes X68.here hx rfl (pc0 := 93) (pc' := 133) rfl (hb hby d7_93) rfl (tlt hc69).1 (by decide) (by decide) k) ?_
          show own_Go _ _ _ _ (T68.setTop (mkF m 133 #[.val (.ref ob), .val (.long u1), .second, .val (.int (Int32.ofNat i)), .val (.long (W j)), .second, .val (.int (15 : Int32)), .val (.int (Int32.ofNat q))] []))
          refine own_st (fun _ k => XS.iload X68.here hx rfl (hb hby d7_133) rfl k) ?_
          show own_Go _ _ _ _ (T68.setTop (mkF m 135 #[.val (.ref ob), .val (.long u1), .second, .val (.int (Int32.ofNat i)), .val (.long (W j)), .second, .val (.int (15 : Int32)), .val (.int (Int32.ofNat q))] [(.int (Int32.ofNat q))]))
          refine own_st (fun _ k => XS.iconst X68.here hx rfl (hb hby d7_135) k) ?_
          show own_Go _ _ _ _ (T68.setTop (mkF m 136 #[.val (.ref ob), .val (.long u1), .second, .val (.int (Int32.ofNat i)), .val (.long (W j)), .second, .val (.int (15 : Int32)), .val (.int (Int32.ofNat q))] [(.int (1 : Int32)), (.int (Int32.ofNat q))]))
          refine own_st (fun _ k => XS.iadd X68.here hx rfl (hb hby d7_136) rfl k) ?_
          show own_Go _ _ _ _ (T68.setTop (mkF m 137 #[.val (.ref ob), .val (.long u1), .second, .val (.int (Int32.ofNat i)), .val (.long (W j)), .second, .val (.int (15 : Int32)), .val (.int (Int32.ofNat q))] [(.int ((Int32.ofNat q) + (1 : Int32)))]))
          refine own_st (fun _ k => XS.iload X68.here hx rfl (hb hby d7_137) rfl k) ?_
          show own_Go _ _ _ _ (T68.setTop (mkF m 139 #[.val (.ref ob), .val (.long u1), .second, .val (.int (Int32.ofNat i)), .val (.long (W j)), .second, .val (.int (15 : Int32)), .val (.int (Int32.ofNat q))] [(.int (15 : Int32)), (.int ((Int32.ofNat q) + (1 : Int32)))]))
          refine own_st (fun _ k => XS.iand X68.here hx rfl (hb hby d7_139) rfl k) ?_
          rw [own_nxt q hq]
          show own_Go _ _ _ _ (T68.setTop (mkF m 140 #[.val (.ref ob), .val (.long u1), .second, .val (.int (Int32.ofNat i)), .val (.long (W j)), .second, .val (.int (15 : Int32)), .val (.int (Int32.ofNat q))] [(.int (Int32.ofNat ((q + 1) % 16)))]))
          refine own_st (fun _ k => XS.istore X68.here hx rfl (hb hby d7_140) rfl (l' := #[.val (.ref ob), .val (.long u1), .second, .val (.int (Int32.ofNat i)), .val (.long (W j)), .second, .val (.int (15 : Int32)), .val (.int (Int32.ofNat ((q + 1) % 16)))]) rfl k) ?_
          show own_Go _ _ _ _ (T68.setTop (mkF m 142 #[.val (.ref ob), .val (.long u1), .second, .val (.int (Int32.ofNat i)), .val (.long (W j)), .second, .val (.int (15 : Int32)), .val (.int (Int32.ofNat ((q + 1) % 16)))] []))
          refine own_st (fun _ k => XS.goto X68.here hx rfl (pc0 := 142) (pc' := 57) rfl (hb hby d7_142) (by decide) (by decide) k) ?_
          show own_Go _ _ _ _ (T68.setTop (mkF m 57 #[.val (.ref ob), .val (.long u1), .second, .val (.int (Int32.ofNat i)), .val (.long (W j)), .second, .val (.int (15 : Int32)), .val (.int (Int32.ofNat ((q + 1) % 16)))] []))
          unfold own_rml at hr
          rw [if_neg (fun z => hc65 ((lw_eq _ _).mpr z))] at hr
          rw [if_pos ((own_ltN _ _ (own_m16 _) (own_m16 _)).mp hc69)] at hr
          exact ih _ _ _ _ _ _ _ _ hi (own_m16 _) hr X68 eq68 VkL VwL EL FkL FvL FsL N68 KL ZL hG
        · skip
          refine own_st (fun _ k => XS.icmpNo X68.here hx rfl (hb hby d7_93) rfl (flt hc69).1 k) ?_
          show own_Go _ _ _ _ (T68.setTop (mkF m 96 #[.val (.ref ob), .val (.long u1), .second, .val (.int (Int32.ofNat i)), .val (.long (W j)), .second, .val (.int (15 : Int32)), .val (.int (Int32.ofNat q))] []))
          refine own_st (fun _ k => XS.aloadN X68.here hx rfl (hb hby d7_96) rfl rfl k) ?_
          show own_Go _ _ _ _ (T68.setTop (mkF m 97 #[.val (.ref ob), .val (.long u1), .second, .val (.int (Int32.ofNat i)), .val (.long (W j)), .second, .val (.int (15 : Int32)), .val (.int (Int32.ofNat q))] [(.ref ob)]))
          obtain ⟨T70, X70, e70, st70⟩ := getF X68 hx hZ hown (host := "") (Or.inl (hw _ (List.mem_of_getElem? (i := 23) rfl))) Via.refl eq68 FkL (g := (mkF m 97 #[.val (.ref ob), .val (.long u1), .second, .val (.int (Int32.ofNat i)), .val (.long (W j)), .second, .val (.int (15 : Int32)), .val (.int (Int32.ofNat q))] [(.ref ob)])) rfl rfl (hb hby d7_97)
          refine own_st st70 ?_
          show own_Go _ _ _ _ (T70.setTop (mkF m 100 #[.val (.ref ob), .val (.long u1), .second, .val (.int (Int32.ofNat i)), .val (.long (W j)), .second, .val (.int (15 : Int32)), .val (.int (Int32.ofNat q))] [(.ref ka)]))
          refine own_st (fun _ k => XS.iloadN X70.here hx rfl (hb hby d7_100) rfl k) ?_
          show own_Go _ _ _ _ (T70.setTop (mkF m 101 #[.val (.ref ob), .val (.long u1), .second, .val (.int (Int32.ofNat i)), .val (.long (W j)), .second, .val (.int (15 : Int32)), .val (.int (Int32.ofNat q))] [(.int (Int32.ofNat i)), (.ref ka)]))
          refine own_st (fun _ k => XS.aloadN X70.here hx rfl (hb hby d7_101) rfl rfl k) ?_
          show own_Go _ _ _ _ (T70.setTop (mkF m 102 #[.val (.ref ob), .val (.long u1), .second, .val (.int (Int32.ofNat i)), .val (.long (W j)), .second, .val (.int (15 : Int32)), .val (.int (Int32.ofNat q))] [(.ref ob), (.int (Int32.ofNat i)), (.ref ka)]))
          obtain ⟨T71, X71, e71, st71⟩ := getF X70 hx hZ hown (host := "") (Or.inl (hw _ (List.mem_of_getElem? (i := 23) rfl))) Via.refl e70 FkL (g := (mkF m 102 #[.val (.ref ob), .val (.long u1), .second, .val (.int (Int32.ofNat i)), .val (.long (W j)), .second, .val (.int (15 : Int32)), .val (.int (Int32.ofNat q))] [(.ref ob), (.int (Int32.ofNat i)), (.ref ka)])) rfl rfl (hb hby d7_102)
          refine own_st st71 ?_
          show own_Go _ _ _ _ (T71.setTop (mkF m 105 #[.val (.ref ob), .val (.long u1), .second, .val (.int (Int32.ofNat i)), .val (.long (W j)), .second, .val (.int (15 : Int32)), .val (.int (Int32.ofNat q))] [(.ref ka), (.int (Int32.ofNat i)), (.ref ka)]))
          refine own_st (fun _ k => XS.iload X71.here hx rfl (hb hby d7_105) rfl k) ?_
          show own_Go _ _ _ _ (T71.setTop (mkF m 107 #[.val (.ref ob), .val (.long u1), .second, .val (.int (Int32.ofNat i)), .val (.long (W j)), .second, .val (.int (15 : Int32)), .val (.int (Int32.ofNat q))] [(.int (Int32.ofNat q)), (.ref ka), (.int (Int32.ofNat i)), (.ref ka)]))
          obtain ⟨cl72, Ar72, -, Sz72, Nn72, Hs72, -⟩ := id VkL
          have hin72 : ¬ ((Int32.ofNat q) < 0 ∨ cl72.slots.size ≤ ((Int32.ofNat q)).toNatClampNeg) := inb_of Sz72 ⟨(own_ofN q hq).2.1, (own_ofN q hq).2.2⟩
          have hat72 : cl72.slots[((Int32.ofNat q)).toNatClampNeg]? = some (.long (Kc q)) := Hs72.at hin72 (by rw [(own_ofN q hq).1]; exact own_vs_get _ _ hq)
          refine own_st (X71.laload hx (j := (Int32.ofNat q)) (v := (.long (Kc q))) (by rw [e71]; exact Ar72.1) (State.isArrayOf_alike hZ.alike Ar72.2.1) Ar72.2.2 hin72 hat72 (g := (mkF m 107 #[.val (.ref ob), .val (.long u1), .second, .val (.int (Int32.ofNat i)), .val (.long (W j)), .second, .val (.int (15 : Int32)), .val (.int (Int32.ofNat q))] [(.int (Int32.ofNat q)), (.ref ka), (.int (Int32.ofNat i)), (.ref ka)])) rfl rfl (hb hby d7_107)) ?_
          show own_Go _ _ _ _ (T71.setTop (mkF m 108 #[.val (.ref ob), .val (.long u1), .second, .val (.int (Int32.ofNat i)), .val (.long (W j)), .second, .val (.int (15 : Int32)), .val (.int (Int32.ofNat q))] [(.long (Kc q)), (.int (Int32.ofNat i)), (.ref ka)]))
          obtain ⟨cl73, Ar73, Kd73, Sz73, Nn73, Hs73, Gs73⟩ := id VkL
          obtain ⟨T73, h73, X73, e73, W73, st73⟩ := stJ X71 hx hZ e71 Ar73 (j := (Int32.ofNat i)) (inb_of Sz73 ⟨(own_ofN i hi).2.1, (own_ofN i hi).2.2⟩) (g := (mkF m 108 #[.val (.ref ob), .val (.long u1), .second, .val (.int (Int32.ofNat i)), .val (.long (W j)), .second, .val (.int (15 : Int32)), .val (.int (Int32.ofNat q))] [(.long (Kc q)), (.int (Int32.ofNat i)), (.ref ka)])) rfl rfl (hb hby d7_108)
          refine own_st st73 ?_
          have V73 : Arv Z h73 ka kk .long (16 : Int32) (own_vs (own_upd Kc i (Kc q))) (.long (0 : Int64)) := by
            have q := Arv.set Ar73 Kd73 Sz73 Nn73 Hs73 Gs73 (v := .long (Kc q)) rfl W73 i (own_ofN i hi).1 (by rw [own_vs_len]; exact hi)
            rw [own_vs_set _ _ _ hi] at q; exact q
          have y73_E_ob := EL.wr W73
          have y73_F_ob_keys := FkL.other W73 (Or.inl ne1)
          have y73_F_ob_values := FvL.other W73 (Or.inl ne1)
          have y73_F_ob_slotBits := FsL.other W73 (Or.inl ne1)
          have y73_V_wa := VwL.other W73 (Ne.symm ne3)
          have Z73 : n0 ≤ h73.size := Nat.le_trans ZL (Nat.le_of_eq W73.size.symm)
          have N73 := Fr.snoc X73 N68 gnka
          have K73 : Keep h0 h73 [ob, ka, wa] := KL.wr W73 (Or.inl (by simp))
          show own_Go _ _ _ _ (T73.setTop (mkF m 109 #[.val (.ref ob), .val (.long u1), .second, .val (.int (Int32.ofNat i)), .val (.long (W j)), .second, .val (.int (15 : Int32)), .val (.int (Int32.ofNat q))] []))
          refine own_st (fun _ k => XS.aloadN X73.here hx rfl (hb hby d7_109) rfl rfl k) ?_
          show own_Go _ _ _ _ (T73.setTop (mkF m 110 #[.val (.ref ob), .val (.long u1), .second, .val (.int (Int32.ofNat i)), .val (.long (W j)), .second, .val (.int (15 : Int32)), .val (.int (Int32.ofNat q))] [(.ref ob)]))
          obtain ⟨T74, X74, e74, st74⟩ := getF X73 hx hZ hown (host := "") (Or.inl (hw _ (List.mem_of_getElem? (i := 25) rfl))) Via.refl e73 y73_F_ob_values (g := (mkF m 110 #[.val (.ref ob), .val (.long u1), .second, .val (.int (Int32.ofNat i)), .val (.long (W j)), .second, .val (.int (15 : Int32)), .val (.int (Int32.ofNat q))] [(.ref ob)])) rfl rfl (hb hby d7_110)
          refine own_st st74 ?_
          show own_Go _ _ _ _ (T74.setTop (mkF m 113 #[.val (.ref ob), .val (.long u1), .second, .val (.int (Int32.ofNat i)), .val (.long (W j)), .second, .val (.int (15 : Int32)), .val (.int (Int32.ofNat q))] [(.ref wa)]))
          refine own_st (fun _ k => XS.iloadN X74.here hx rfl (hb hby d7_113) rfl k) ?_
          show own_Go _ _ _ _ (T74.setTop (mkF m 114 #[.val (.ref ob), .val (.long u1), .second, .val (.int (Int32.ofNat i)), .val (.long (W j)), .second, .val (.int (15 : Int32)), .val (.int (Int32.ofNat q))] [(.int (Int32.ofNat i)), (.ref wa)]))
          refine own_st (fun _ k => XS.aloadN X74.here hx rfl (hb hby d7_114) rfl rfl k) ?_
          show own_Go _ _ _ _ (T74.setTop (mkF m 115 #[.val (.ref ob), .val (.long u1), .second, .val (.int (Int32.ofNat i)), .val (.long (W j)), .second, .val (.int (15 : Int32)), .val (.int (Int32.ofNat q))] [(.ref ob), (.int (Int32.ofNat i)), (.ref wa)]))
          obtain ⟨T75, X75, e75, st75⟩ := getF X74 hx hZ hown (host := "") (Or.inl (hw _ (List.mem_of_getElem? (i := 25) rfl))) Via.refl e74 y73_F_ob_values (g := (mkF m 115 #[.val (.ref ob), .val (.long u1), .second, .val (.int (Int32.ofNat i)), .val (.long (W j)), .second, .val (.int (15 : Int32)), .val (.int (Int32.ofNat q))] [(.ref ob), (.int (Int32.ofNat i)), (.ref wa)])) rfl rfl (hb hby d7_115)
          refine own_st st75 ?_
          show own_Go _ _ _ _ (T75.setTop (mkF m 118 #[.val (.ref ob), .val (.long u1), .second, .val (.int (Int32.ofNat i)), .val (.long (W j)), .second, .val (.int (15 : Int32)), .val (.int (Int32.ofNat q))] [(.ref wa), (.int (Int32.ofNat i)), (.ref wa)]))
          refine own_st (fun _ k => XS.iload X75.here hx rfl (hb hby d7_118) rfl k) ?_
          show own_Go _ _ _ _ (T75.setTop (mkF m 120 #[.val (.ref ob), .val (.long u1), .second, .val (.int (Int32.ofNat i)), .val (.long (W j)), .second, .val (.int (15 : Int32)), .val (.int (Int32.ofNat q))] [(.int (Int32.ofNat q)), (.ref wa), (.int (Int32.ofNat i)), (.ref wa)]))
          obtain ⟨cl76, Ar76, -, Sz76, Nn76, Hs76, -⟩ := id y73_V_wa
          have hin76 : ¬ ((Int32.ofNat q) < 0 ∨ cl76.slots.size ≤ ((Int32.ofNat q)).toNatClampNeg) := inb_of Sz76 ⟨(own_ofN q hq).2.1, (own_ofN q hq).2.2⟩
          have hat76 : cl76.slots[((Int32.ofNat q)).toNatClampNeg]? = some (.long (Wc q)) := Hs76.at hin76 (by rw [(own_ofN q hq).1]; exact own_vs_get _ _ hq)
          refine own_st (X75.laload hx (j := (Int32.ofNat q)) (v := (.long (Wc q))) (by rw [e75]; exact Ar76.1) (State.isArrayOf_alike hZ.alike Ar76.2.1) Ar76.2.2 hin76 hat76 (g := (mkF m 120 #[.val (.ref ob), .val (.long u1), .second, .val (.int (Int32.ofNat i)), .val (.long (W j)), .second, .val (.int (15 : Int32)), .val (.int (Int32.ofNat q))] [(.int (Int32.ofNat q)), (.ref wa), (.int (Int32.ofNat i)), (.ref wa)])) rfl rfl (hb hby d7_120)) ?_
          show own_Go _ _ _ _ (T75.setTop (mkF m 121 #[.val (.ref ob), .val (.long u1), .second, .val (.int (Int32.ofNat i)), .val (.long (W j)), .second, .val (.int (15 : Int32)), .val (.int (Int32.ofNat q))] [(.long (Wc q)), (.int (Int32.ofNat i)), (.ref wa)]))
          obtain ⟨cl77, Ar77, Kd77, Sz77, Nn77, Hs77, Gs77⟩ := id y73_V_wa
          obtain ⟨T77, h77, X77, e77, W77, st77⟩ := stJ X75 hx hZ e75 Ar77 (j := (Int32.ofNat i)) (inb_of Sz77 ⟨(own_ofN i hi).2.1, (own_ofN i hi).2.2⟩) (g := (mkF m 121 #[.val (.ref ob), .val (.long u1), .second, .val (.int (Int32.ofNat i)), .val (.long (W j)), .second, .val (.int (15 : Int32)), .val (.int (Int32.ofNat q))] [(.long (Wc q)), (.int (Int32.ofNat i)), (.ref wa)])) rfl rfl (hb hby d7_121)
          refine own_st st77 ?_
          have V77 : Arv Z h77 wa kw .long (16 : Int32) (own_vs (own_upd Wc i (Wc q))) (.long (0 : Int64)) := by
            have q := Arv.set Ar77 Kd77 Sz77 Nn77 Hs77 Gs77 (v := .long (Wc q)) rfl W77 i (own_ofN i hi).1 (by rw [own_vs_len]; exact hi)
            rw [own_vs_set _ _ _ hi] at q; exact q
          have y77_E_ob := y73_E_ob.wr W77
          have y77_F_ob_keys := y73_F_ob_keys.other W77 (Or.inl ne2)
          have y77_F_ob_values := y73_F_ob_values.other W77 (Or.inl ne2)
          have y77_F_ob_slotBits := y73_F_ob_slotBits.other W77 (Or.inl ne2)
          have y77_V_ka := V73.other W77 ne3
          have Z77 : n0 ≤ h77.size := Nat.le_trans Z73 (Nat.le_of_eq W77.size.symm)
          have N77 := Fr.snoc X77 N73 gnwa
          have K77 : Keep h0 h77 [ob, ka, wa] := K73.wr W77 (Or.inl (by simp))
          show own_Go _ _ _ _ (T77.setTop (mkF m 122 #[.val (.ref ob), .val (.long u1), .second, .val (.int (Int32.ofNat i)), .val (.long (W j)), .second, .val (.int (15 : Int32)), .val (.int (Int32.ofNat q))] []))
          refine own_st (fun _ k => XS.aloadN X77.here hx rfl (hb hby d7_122) rfl rfl k) ?_
          show own_Go _ _ _ _ (T77.setTop (mkF m 123 #[.val (.ref ob), .val (.long u1), .second, .val (.int (Int32.ofNat i)), .val (.long (W j)), .second, .val (.int (15 : Int32)), .val (.int (Int32.ofNat q))] [(.ref ob)]))
          obtain ⟨T78, X78, e78, st78⟩ := getF X77 hx hZ hown (host := "") (Or.inl (hw _ (List.mem_of_getElem? (i := 25) rfl))) Via.refl e77 y77_F_ob_values (g := (mkF m 123 #[.val (.ref ob), .val (.long u1), .second, .val (.int (Int32.ofNat i)), .val (.long (W j)), .second, .val (.int (15 : Int32)), .val (.int (Int32.ofNat q))] [(.ref ob)])) rfl rfl (hb hby d7_123)
          refine own_st st78 ?_
          show own_Go _ _ _ _ (T78.setTop (mkF m 126 #[.val (.ref ob), .val (.long u1), .second, .val (.int (Int32.ofNat i)), .val (.long (W j)), .second, .val (.int (15 : Int32)), .val (.int (Int32.ofNat q))] [(.ref wa)]))
          refine own_st (fun _ k => XS.iload X78.here hx rfl (hb hby d7_126) rfl k) ?_
          show own_Go _ _ _ _ (T78.setTop (mkF m 128 #[.val (.ref ob), .val (.long u1), .second, .val (.int (Int32.ofNat i)), .val (.long (W j)), .second, .val (.int (15 : Int32)), .val (.int (Int32.ofNat q))] [(.int (Int32.ofNat q)), (.ref wa)]))
          refine own_st (fun _ k => XS.lconst X78.here hx rfl (hb hby d7_128) k) ?_
          show own_Go _ _ _ _ (T78.setTop (mkF m 129 #[.val (.ref ob), .val (.long u1), .second, .val (.int (Int32.ofNat i)), .val (.long (W j)), .second, .val (.int (15 : Int32)), .val (.int (Int32.ofNat q))] [(.long (0 : Int64)), (.int (Int32.ofNat q)), (.ref wa)]))
          obtain ⟨cl79, Ar79, Kd79, Sz79, Nn79, Hs79, Gs79⟩ := id V77
          obtain ⟨T79, h79, X79, e79, W79, st79⟩ := stJ X78 hx hZ e78 Ar79 (j := (Int32.ofNat q)) (inb_of Sz79 ⟨(own_ofN q hq).2.1, (own_ofN q hq).2.2⟩) (g := (mkF m 129 #[.val (.ref ob), .val (.long u1), .second, .val (.int (Int32.ofNat i)), .val (.long (W j)), .second, .val (.int (15 : Int32)), .val (.int (Int32.ofNat q))] [(.long (0 : Int64)), (.int (Int32.ofNat q)), (.ref wa)])) rfl rfl (hb hby d7_129)
          refine own_st st79 ?_
          have V79 : Arv Z h79 wa kw .long (16 : Int32) (own_vs (own_upd (own_upd Wc i (Wc q)) q (0 : Int64))) (.long (0 : Int64)) := by
            have q := Arv.set Ar79 Kd79 Sz79 Nn79 Hs79 Gs79 (v := .long (0 : Int64)) rfl W79 q (own_ofN q hq).1 (by rw [own_vs_len]; exact hq)
            rw [own_vs_set _ _ _ hq] at q; exact q
          have y79_E_ob := y77_E_ob.wr W79
          have y79_F_ob_keys := y77_F_ob_keys.other W79 (Or.inl ne2)
          have y79_F_ob_values := y77_F_ob_values.other W79 (Or.inl ne2)
          have y79_F_ob_slotBits := y77_F_ob_slotBits.other W79 (Or.inl ne2)
          have y79_V_ka := y77_V_ka.other W79 ne3
          have Z79 : n0 ≤ h79.size := Nat.le_trans Z77 (Nat.le_of_eq W79.size.symm)
          have N79 := Fr.snoc X79 N77 gnwa
          have K79 : Keep h0 h79 [ob, ka, wa] := K77.wr W79 (Or.inl (by simp))
          show own_Go _ _ _ _ (T79.setTop (mkF m 130 #[.val (.ref ob), .val (.long u1), .second, .val (.int (Int32.ofNat i)), .val (.long (W j)), .second, .val (.int (15 : Int32)), .val (.int (Int32.ofNat q))] []))
          refine own_st (fun _ k => XS.iload X79.here hx rfl (hb hby d7_130) rfl k) ?_
          show own_Go _ _ _ _ (T79.setTop (mkF m 132 #[.val (.ref ob), .val (.long u1), .second, .val (.int (Int32.ofNat i)), .val (.long (W j)), .second, .val (.int (15 : Int32)), .val (.int (Int32.ofNat q))] [(.int (Int32.ofNat q))]))
          refine own_st (fun _ k => XS.istoreN X79.here hx rfl (hb hby d7_132) rfl (l' := #[.val (.ref ob), .val (.long u1), .second, .val (.int (Int32.ofNat q)), .val (.long (W j)), .second, .val (.int (15 : Int32)), .val (.int (Int32.ofNat q))]) rfl k) ?_
          show own_Go _ _ _ _ (T79.setTop (mkF m 133 #[.val (.ref ob), .val (.long u1), .second, .val (.int (Int32.ofNat q)), .val (.long (W j)), .second, .val (.int (15 : Int32)), .val (.int (Int32.ofNat q))] []))
          refine own_st (fun _ k => XS.iload X79.here hx rfl (hb hby d7_133) rfl k) ?_
          show own_Go _ _ _ _ (T79.setTop (mkF m 135 #[.val (.ref ob), .val (.long u1), .second, .val (.int (Int32.ofNat q)), .val (.long (W j)), .second, .val (.int (15 : Int32)), .val (.int (Int32.ofNat q))] [(.int (Int32.ofNat q))]))
          refine own_st (fun _ k => XS.iconst X79.here hx rfl (hb hby d7_135) k) ?_
          show own_Go _ _ _ _ (T79.setTop (mkF m 136 #[.val (.ref ob), .val (.long u1), .second, .val (.int (Int32.ofNat q)), .val (.long (W j)), .second, .val (.int (15 : Int32)), .val (.int (Int32.ofNat q))] [(.int (1 : Int32)), (.int (Int32.ofNat q))]))
          refine own_st (fun _ k => XS.iadd X79.here hx rfl (hb hby d7_136) rfl k) ?_
          show own_Go _ _ _ _ (T79.setTop (mkF m 137 #[.val (.ref ob), .val (.long u1), .second, .val (.int (Int32.ofNat q)), .val (.long (W j)), .second, .val (.int (15 : Int32)), .val (.int (Int32.ofNat q))] [(.int ((Int32.ofNat q) + (1 : Int32)))]))
          refine own_st (fun _ k => XS.iload X79.here hx rfl (hb hby d7_137) rfl k) ?_
          show own_Go _ _ _ _ (T79.setTop (mkF m 139 #[.val (.ref ob), .val (.long u1), .second, .val (.int (Int32.ofNat q)), .val (.long (W j)), .second, .val (.int (15 : Int32)), .val (.int (Int32.ofNat q))] [(.int (15 : Int32)), (.int ((Int32.ofNat q) + (1 : Int32)))]))
          refine own_st (fun _ k => XS.iand X79.here hx rfl (hb hby d7_139) rfl k) ?_
          rw [own_nxt q hq]
          show own_Go _ _ _ _ (T79.setTop (mkF m 140 #[.val (.ref ob), .val (.long u1), .second, .val (.int (Int32.ofNat q)), .val (.long (W j)), .second, .val (.int (15 : Int32)), .val (.int (Int32.ofNat q))] [(.int (Int32.ofNat ((q + 1) % 16)))]))
          refine own_st (fun _ k => XS.istore X79.here hx rfl (hb hby d7_140) rfl (l' := #[.val (.ref ob), .val (.long u1), .second, .val (.int (Int32.ofNat q)), .val (.long (W j)), .second, .val (.int (15 : Int32)), .val (.int (Int32.ofNat ((q + 1) % 16)))]) rfl k) ?_
          show own_Go _ _ _ _ (T79.setTop (mkF m 142 #[.val (.ref ob), .val (.long u1), .second, .val (.int (Int32.ofNat q)), .val (.long (W j)), .second, .val (.int (15 : Int32)), .val (.int (Int32.ofNat ((q + 1) % 16)))] []))
          refine own_st (fun _ k => XS.goto X79.here hx rfl (pc0 := 142) (pc' := 57) rfl (hb hby d7_142) (by decide) (by decide) k) ?_
          show own_Go _ _ _ _ (T79.setTop (mkF m 57 #[.val (.ref ob), .val (.long u1), .second, .val (.int (Int32.ofNat q)), .val (.long (W j)), .second, .val (.int (15 : Int32)), .val (.int (Int32.ofNat ((q + 1) % 16)))] []))
          unfold own_rml at hr
          rw [if_neg (fun z => hc65 ((lw_eq _ _).mpr z))] at hr
          rw [if_neg (fun z => hc69 ((own_ltN _ _ (own_m16 _) (own_m16 _)).mpr z))] at hr
          exact ih _ _ _ _ _ _ _ _ hq (own_m16 _) hr X79 e79 y79_V_ka V79 y79_E_ob y79_F_ob_keys y79_F_ob_values y79_F_ob_slotBits N79 K79 Z79 hG
  refine LP 16 j _ _ _ _ _ _ _ hj (own_m16 _) hrm X62 e62 y62_V_ka y62_V_wa y62_E_ob y62_F_ob_keys y62_F_ob_values y62_F_ob_slotBits N62 K62 Z62 ?_
  intro i2 q2 TZ hZZ lcZ XZ eZ VkZ VwZ EZ FkZ FvZ FsZ NZ KZ
  show own_Go _ _ _ _ (TZ.setTop (mkF m 145 #[.val (.ref ob), .val (.long u1), .second, .val (.int (Int32.ofNat i2)), .val (.long (W j)), .second, .val (.int (15 : Int32)), .val (.int (Int32.ofNat q2))] []))
  refine own_st (fun _ k => XS.lload XZ.here hx rfl (hb hby d7_145) rfl k) ?_
  show own_Go _ _ _ _ (TZ.setTop (mkF m 147 #[.val (.ref ob), .val (.long u1), .second, .val (.int (Int32.ofNat i2)), .val (.long (W j)), .second, .val (.int (15 : Int32)), .val (.int (Int32.ofNat q2))] [(.long (W j))]))
  obtain ⟨fs, hr, hrun, hended, hW, hsame⟩ := XZ.leave (v := some (.long (W j))) (fun h => by rw [Bd.returns] at h; cases h)
  refine own_out (XZ.lreturnOut hx Bd.returns (hb hby d7_147) hr) ⟨hrun, hended, _, _, rfl, ?_, ⟨_, rfl⟩, hW, hsame.mono (by decide) (by decide)⟩
  show Q7 Z ob ka wa kk kw K W u1 j K' W' sz h0 n0 _ TZ.heap _
  rw [eZ]
  exact ⟨rfl, NZ, KZ, EZ, FkZ, FvZ, FsZ, VkZ, VwZ⟩
def own_afind (t : List Nat) (a : Nat) : Nat → Nat → Option Nat
  | 0, _ => none
  | f + 1, i => if t.getD i 0 = 0 then some i else if t.getD i 0 = a + 1 then some i else own_afind t a f ((i + 1) % 16)
def own_arml (os : List Nat) : Nat → List Nat → Nat → Nat → Option (List Nat)
  | 0, _, _, _ => none
  | f + 1, t, i, j => if t.getD j 0 = 0 then some t else if (j + 16 - os.getD (t.getD j 0 - 1) 0) % 16 < (j + 16 - i) % 16 then own_arml os f t i ((j + 1) % 16) else own_arml os f ((t.set i (t.getD j 0)).set j 0) j ((j + 1) % 16)
def own_aput (t : List Nat) (a h : Nat) : Option (List Nat) := match own_afind t a 16 h with
  | none => none
  | some j => if t.getD j 0 = 0 then some (t.set j (a + 1)) else none
def own_tbl (os : List Nat) : Nat → Option (List Nat)
  | 0 => some (List.replicate 16 0)
  | n + 1 => match own_tbl os n with
    | none => none
    | some t => own_aput t n (os.getD n 0)
def own_agets (t : List Nat) (q h : Nat) : Option Nat := match own_afind t q 16 h with
  | none => none
  | some j => some (t.getD j 0)
def own_arem (os : List Nat) (n : Nat) (t : List Nat) (a : Nat) : Option (List Nat) := match own_afind t a 16 (os.getD a 0) with
  | none => none
  | some j => if t.getD j 0 = 0 then (if n ≤ a then some t else none) else if t.getD j 0 = a + 1 then (if a < n then own_arml os 16 (t.set j 0) j ((j + 1) % 16) else none) else none
def own_chk (n a : Nat) (os : List Nat) : Bool := match own_tbl os n with
  | none => false
  | some tt => match own_arem os n tt a with
    | none => false
    | some t' => own_agets t' 0 (os.getD 0 0) == some (if 0 < n ∧ 0 ≠ a then 1 else 0) && own_agets t' 1 (os.getD 1 0) == some (if 1 < n ∧ 1 ≠ a then 2 else 0) && own_agets t' 2 (os.getD 2 0) == some (if 2 < n ∧ 2 ≠ a then 3 else 0) && own_agets t' 3 (os.getD 3 0) == some (if 3 < n ∧ 3 ≠ a then 4 else 0)
theorem own_chkE {n a : Nat} {os : List Nat} (h : own_chk n a os = true) : ∃ tt t', own_tbl os n = some tt ∧ own_arem os n tt a = some t' ∧ own_agets t' 0 (os.getD 0 0) = some (if 0 < n ∧ 0 ≠ a then 1 else 0) ∧ own_agets t' 1 (os.getD 1 0) = some (if 1 < n ∧ 1 ≠ a then 2 else 0) ∧ own_agets t' 2 (os.getD 2 0) = some (if 2 < n ∧ 2 ≠ a then 3 else 0) ∧ own_agets t' 3 (os.getD 3 0) = some (if 3 < n ∧ 3 ≠ a then 4 else 0) := by
  unfold own_chk at h
  cases h1 : own_tbl os n with
  | none => rw [h1] at h; cases h
  | some tt =>
    rw [h1] at h
    dsimp only at h
    cases h2 : own_arem os n tt a with
    | none => rw [h2] at h; cases h
    | some t' =>
      rw [h2] at h
      dsimp only at h
      simp only [Bool.and_eq_true, beq_iff_eq] at h
      exact ⟨tt, t', rfl, h2, h.1.1.1, h.1.1.2, h.1.2, h.2⟩
theorem own_tblS {os : List Nat} {k : Nat} {t : List Nat} (h : own_tbl os (k + 1) = some t) : ∃ t0 j, own_tbl os k = some t0 ∧ own_afind t0 k 16 (os.getD k 0) = some j ∧ t0.getD j 0 = 0 ∧ t = t0.set j (k + 1) := by
  unfold own_tbl at h
  cases h1 : own_tbl os k with
  | none => rw [h1] at h; cases h
  | some t0 =>
    rw [h1] at h
    dsimp only at h
    unfold own_aput at h
    cases h2 : own_afind t0 k 16 (os.getD k 0) with
    | none => rw [h2] at h; cases h
    | some j =>
      rw [h2] at h
      dsimp only at h
      split at h
      · rename_i z; exact ⟨t0, j, rfl, h2, z, (Option.some.inj h).symm⟩
      · cases h
theorem own_afind_lt (t : List Nat) (a : Nat) : ∀ (f i j : Nat), i < 16 → own_afind t a f i = some j → j < 16 := by
  intro f
  induction f with
  | zero => intro i j hi h; simp [own_afind] at h
  | succ f ih =>
    intro i j hi h
    unfold own_afind at h
    split at h
    · cases h; exact hi
    · split at h
      · cases h; exact hi
      · exact ih _ _ (own_m16 _) h
/-- M keys; the base; where each key's home lies behind the base -/
def own_H (kf vf : Nat → Int64) (base M : Nat) (os : List Nat) : Prop := 4 ≤ M ∧ (∀ a, a < M → own_home (kf a) = (base + os.getD a 0) % 16) ∧ (∀ a b, a < M → b < M → kf a = kf b → a = b) ∧ (∀ a, a < 4 → vf a ≠ 0) ∧ (∀ a, os.getD a 0 < 16)
def own_R (kf vf : Nat → Int64) (base : Nat) (t : List Nat) (K W : Nat → Int64) : Prop := t.length = 16 ∧ ∀ i, i < 16 → (t.getD i 0 = 0 → W ((base + i) % 16) = 0) ∧ (∀ a, t.getD i 0 = a + 1 → a < 4 ∧ K ((base + i) % 16) = kf a ∧ W ((base + i) % 16) = vf a)
theorem own_R0 (kf vf : Nat → Int64) (base : Nat) : own_R kf vf base (List.replicate 16 0) own_z own_z := by
  refine ⟨by simp, fun i hi => ⟨fun _ => rfl, fun a h => ?_⟩⟩
  have : (List.replicate 16 0).getD i 0 = 0 := by
    rw [List.getD_eq_getElem?_getD, List.getElem?_replicate]
    split <;> rfl
  rw [this] at h; cases h
theorem own_setD (t : List Nat) (j x i : Nat) (hl : t.length = 16) (hj : j < 16) : (t.set j x).getD i 0 = if i = j then x else t.getD i 0 := by
  simp only [List.getD_eq_getElem?_getD]
  by_cases h : i = j
  · subst h; simp [hl, hj]
  · rw [List.getElem?_set_ne (Ne.symm h), if_neg h]
section Sim
variable {kf vf : Nat → Int64} {base M : Nat} {os : List Nat} {t : List Nat} {K W : Nat → Int64}
theorem own_simF (H : own_H kf vf base M os) (Rr : own_R kf vf base t K W) {a : Nat} (ha : a < M) : ∀ (f i : Nat), i < 16 → own_find K W (kf a) f ((base + i) % 16) = (own_afind t a f i).map (fun x => (base + x) % 16) := by
  intro f
  induction f with
  | zero => intro i hi; rfl
  | succ f ih =>
    intro i hi
    unfold own_find own_afind
    have r := Rr.2 i hi
    cases ht : t.getD i 0 with
    | zero => rw [if_pos (r.1 ht), if_pos rfl]; rfl
    | succ b =>
      obtain ⟨hb, hK, hW⟩ := r.2 b ht
      rw [if_neg (by rw [hW]; exact H.2.2.2.1 b hb), if_neg (Nat.succ_ne_zero b)]
      by_cases hba : b = a
      · subst hba
        rw [if_pos hK, if_pos rfl]; rfl
      · rw [if_neg (fun q => hba (H.2.2.1 b a (Nat.lt_of_lt_of_le hb H.1) ha (hK.symm.trans q))), if_neg (fun q => hba (Nat.succ.inj q))]
        rw [show ((base + i) % 16 + 1) % 16 = (base + (i + 1) % 16) % 16 by omega]
        exact ih _ (own_m16 _)
theorem own_Rput (Rr : own_R kf vf base t K W) {a j : Nat} (hj : j < 16) (ha : a < 4) : own_R kf vf base (t.set j (a + 1)) (own_upd K ((base + j) % 16) (kf a)) (own_upd W ((base + j) % 16) (vf a)) := by
  refine ⟨by rw [List.length_set]; exact Rr.1, fun i hi => ?_⟩
  rw [own_setD t j (a + 1) i Rr.1 hj]
  unfold own_upd
  by_cases h : i = j
  · subst h
    simp only [if_true]
    exact ⟨fun q => absurd q (Nat.succ_ne_zero a), fun b q => by cases q; exact ⟨ha, rfl, rfl⟩⟩
  · rw [if_neg h, if_neg (show ¬ (base + i) % 16 = (base + j) % 16 by omega), if_neg (show ¬ (base + i) % 16 = (base + j) % 16 by omega)]
    exact Rr.2 i hi
theorem own_Rclr (Rr : own_R kf vf base t K W) {j : Nat} (hj : j < 16) : own_R kf vf base (t.set j 0) K (own_upd W ((base + j) % 16) 0) := by
  refine ⟨by rw [List.length_set]; exact Rr.1, fun i hi => ?_⟩
  rw [own_setD t j 0 i Rr.1 hj]
  unfold own_upd
  by_cases h : i = j
  · subst h
    simp only [if_true]
    exact ⟨fun _ => trivial, fun b q => by cases q⟩
  · rw [if_neg h, if_neg (show ¬ (base + i) % 16 = (base + j) % 16 by omega)]
    exact Rr.2 i hi
theorem own_simR (H : own_H kf vf base M os) : ∀ (f : Nat) (t : List Nat) (K W : Nat → Int64) (i j : Nat) (t' : List Nat), own_R kf vf base t K W → i < 16 → j < 16 → own_arml os f t i j = some t' → ∃ K' W', own_rml f K W ((base + i) % 16) ((base + j) % 16) = some (K', W') ∧ own_R kf vf base t' K' W' := by
  intro f
  induction f with
  | zero => intro t K W i j t' Rr hi hj h; simp [own_arml] at h
  | succ f ih =>
    intro t K W i j t' Rr hi hj h
    unfold own_arml at h
    unfold own_rml
    have r := Rr.2 j hj
    cases ht : t.getD j 0 with
    | zero =>
      rw [if_pos ht] at h
      cases h
      rw [if_pos (r.1 ht)]
      exact ⟨K, W, rfl, Rr⟩
    | succ b =>
      obtain ⟨hb, hK, hW⟩ := r.2 b ht
      rw [ht, if_neg (Nat.succ_ne_zero b), Nat.add_sub_cancel] at h
      rw [if_neg (by rw [hW]; exact H.2.2.2.1 b hb)]
      have hh : own_home (K ((base + j) % 16)) = (base + os.getD b 0) % 16 := by rw [hK]; exact H.2.1 b (Nat.lt_of_lt_of_le hb H.1)
      have h16 := H.2.2.2.2 b
      rw [hh]
      generalize os.getD b 0 = o at *
      rw [show ((base + j) % 16 + 16 - (base + o) % 16) % 16 = (j + 16 - o) % 16 by omega, show ((base + j) % 16 + 16 - (base + i) % 16) % 16 = (j + 16 - i) % 16 by omega, show ((base + j) % 16 + 1) % 16 = (base + (j + 1) % 16) % 16 by omega]
      by_cases c : (j + 16 - o) % 16 < (j + 16 - i) % 16
      · rw [if_pos c] at h ⊢
        exact ih t K W i _ t' Rr hi (own_m16 _) h
      · rw [if_neg c] at h ⊢
        rw [hK, hW]
        exact ih _ _ _ j _ t' (own_Rclr (own_Rput Rr hi hb) hj) hj (own_m16 _) h
theorem own_stepP (H : own_H kf vf base M os) (Rr : own_R kf vf base t K W) {a j : Nat} {t' : List Nat} (ha : a < 4) (hf : own_afind t a 16 (os.getD a 0) = some j) (hz : t.getD j 0 = 0) (ht : t' = t.set j (a + 1)) : ∃ r, own_find K W (kf a) 16 (own_home (kf a)) = some r ∧ W r = 0 ∧ own_R kf vf base t' (own_upd K r (kf a)) (own_upd W r (vf a)) := by
  have hj := own_afind_lt t a 16 _ j (H.2.2.2.2 a) hf
  have s := own_simF H Rr (Nat.lt_of_lt_of_le ha H.1) 16 (os.getD a 0) (H.2.2.2.2 a)
  rw [hf, ← H.2.1 a (Nat.lt_of_lt_of_le ha H.1)] at s
  exact ⟨(base + j) % 16, s, (Rr.2 j hj).1 hz, ht ▸ own_Rput Rr hj ha⟩
theorem own_stepR (H : own_H kf vf base M os) (Rr : own_R kf vf base t K W) {n a : Nat} {t' : List Nat} (ha : a < 4) (hn : a < n) (h : own_arem os n t a = some t') : ∃ r K' W', own_find K W (kf a) 16 (own_home (kf a)) = some r ∧ W r = vf a ∧ own_rml 16 K (own_upd W r (0 : Int64)) r ((r + 1) % 16) = some (K', W') ∧ own_R kf vf base t' K' W' := by
  unfold own_arem at h
  have s := own_simF H Rr (Nat.lt_of_lt_of_le ha H.1) 16 (os.getD a 0) (H.2.2.2.2 a)
  rw [← H.2.1 a (Nat.lt_of_lt_of_le ha H.1)] at s
  cases hf : own_afind t a 16 (os.getD a 0) with
  | none => rw [hf] at h; cases h
  | some j =>
    have hj := own_afind_lt t a 16 _ j (H.2.2.2.2 a) hf
    rw [hf] at h s
    dsimp only at h
    split at h
    · rw [if_neg (by omega)] at h; cases h
    · split at h
      · rename_i z
        try rw [if_pos hn] at h
        obtain ⟨-, hK, hW⟩ := (Rr.2 j hj).2 a z
        obtain ⟨K', W', e, R'⟩ := own_simR H 16 _ K (own_upd W ((base + j) % 16) 0) j ((j + 1) % 16) t' (own_Rclr Rr hj) hj (own_m16 _) h
        refine ⟨(base + j) % 16, K', W', s, hW, ?_, R'⟩
        rw [show ((base + j) % 16 + 1) % 16 = (base + (j + 1) % 16) % 16 by omega]
        exact e
      · cases h
theorem own_stepA (H : own_H kf vf base M os) (Rr : own_R kf vf base t K W) {n a : Nat} {t' : List Nat} (ha : a < M) (hn : n ≤ a) (h : own_arem os n t a = some t') : ∃ r, own_find K W (kf a) 16 (own_home (kf a)) = some r ∧ W r = 0 ∧ own_R kf vf base t' K W := by
  unfold own_arem at h
  have s := own_simF H Rr ha 16 (os.getD a 0) (H.2.2.2.2 a)
  rw [← H.2.1 a ha] at s
  cases hf : own_afind t a 16 (os.getD a 0) with
  | none => rw [hf] at h; cases h
  | some j =>
    have hj := own_afind_lt t a 16 _ j (H.2.2.2.2 a) hf
    rw [hf] at h s
    dsimp only at h
    split at h
    · rename_i z
      try rw [if_pos hn] at h
      cases h
      exact ⟨(base + j) % 16, s, (Rr.2 j hj).1 z, Rr⟩
    · split at h
      · rw [if_neg (by omega)] at h; cases h
      · cases h
theorem own_stepG (H : own_H kf vf base M os) (Rr : own_R kf vf base t K W) {q x : Nat} (hq : q < 4) (h : own_agets t q (os.getD q 0) = some x) : ∃ r, own_find K W (kf q) 16 (own_home (kf q)) = some r ∧ (x = 0 → W r = 0) ∧ (x = q + 1 → W r = vf q) := by
  unfold own_agets at h
  have s := own_simF H Rr (Nat.lt_of_lt_of_le hq H.1) 16 (os.getD q 0) (H.2.2.2.2 q)
  rw [← H.2.1 q (Nat.lt_of_lt_of_le hq H.1)] at s
  cases hf : own_afind t q 16 (os.getD q 0) with
  | none => rw [hf] at h; cases h
  | some j =>
    have hj := own_afind_lt t q 16 _ j (H.2.2.2.2 q) hf
    rw [hf] at h s
    cases h
    exact ⟨(base + j) % 16, s, (Rr.2 j hj).1, fun e => ((Rr.2 j hj).2 q e).2.2⟩
end Sim
theorem own_invA : own_inv (-7046029254386353131 : Int64) = (-1018231460777725123 : Int64) := by decide +kernel
theorem own_one : (-1018231460777725123 : Int64) * (-7046029254386353131 : Int64) = 1 := by decide +kernel
def own_off (u0 : Int32) (a : Nat) : Nat := (((u0.toUInt32 >>> (((4 : Int32) + ((2 : Int32) * Int32.ofNat a)) &&& 31).toUInt32).toInt32) &&& (3 : Int32)).toNatClampNeg
def own_base (u0 : Int32) : Nat := (u0 &&& (15 : Int32)).toNatClampNeg
def own_kf (u0 : Int32) (u1 : Int64) (a : Nat) : Int64 := own_key u0 u1 (own_inv (-7046029254386353131 : Int64)) (Int32.ofNat a)
def own_vf (u2 : Int64) (a : Nat) : Int64 := own_val u2 (Int32.ofNat a)
def own_L (nb a : Nat) : Int64 := ((((Int32.ofNat nb).toInt64) <<< ((60 : Int32) &&& 0x3f).toInt64) ||| (((Int32.ofNat a).toInt64) <<< ((56 : Int32) &&& 0x3f).toInt64))
theorem own_LN : ∀ nb, nb < 16 → ∀ a, a < 5 → (own_L nb a).toBitVec.toNat = 2 ^ 56 * (16 * nb + a) := by decide +kernel
theorem own_bo : ∀ b, b < 16 → ∀ o, o < 4 → ((Int32.ofNat b) + (Int32.ofNat o)) &&& (15 : Int32) = Int32.ofNat ((b + o) % 16) := by decide +kernel
theorem own_offN (u0 : Int32) (a : Nat) : own_off u0 a < 4 ∧ (((u0.toUInt32 >>> (((4 : Int32) + ((2 : Int32) * Int32.ofNat a)) &&& 31).toUInt32).toInt32) &&& (3 : Int32)) = Int32.ofNat (own_off u0 a) := by
  unfold own_off
  generalize ((u0.toUInt32 >>> (((4 : Int32) + ((2 : Int32) * Int32.ofNat a)) &&& 31).toUInt32).toInt32) = v
  have m := c_mask v 3 2 (by decide) (by decide)
  have h0 : ¬ (v &&& (3 : Int32)) < (0 : Int32) := by simp only [Int32.lt_iff_toInt_lt, Int32.reduceToInt]; omega
  have := nat_of h0
  exact ⟨by omega, ((back32 h0).1).symm⟩
theorem own_baseN (u0 : Int32) : own_base u0 < 16 ∧ (u0 &&& (15 : Int32)) = Int32.ofNat (own_base u0) := by
  unfold own_base
  have m := c_mask u0 15 4 (by decide) (by decide)
  have h0 : ¬ (u0 &&& (15 : Int32)) < (0 : Int32) := by simp only [Int32.lt_iff_toInt_lt, Int32.reduceToInt]; omega
  have := nat_of h0
  exact ⟨by omega, ((back32 h0).1).symm⟩
/-- what a key times the multiplier is: its parts -/
theorem own_kA (u0 : Int32) (u1 : Int64) (a : Nat) : own_kf u0 u1 a * (-7046029254386353131 : Int64) = (own_L ((own_base u0 + own_off u0 a) % 16) a ||| (u1 &&& (72057594037927935 : Int64))) := by
  unfold own_kf own_key own_L
  rw [own_invA, Int64.mul_assoc, own_one, Int64.mul_one, (own_offN u0 a).2, (own_baseN u0).2, own_bo _ (own_baseN u0).1 _ (own_offN u0 a).1]
theorem own_kN (u0 : Int32) (u1 : Int64) (a : Nat) (ha : a < 5) : ∃ r, r < 2 ^ 56 ∧ (own_kf u0 u1 a * (-7046029254386353131 : Int64)).toBitVec.toNat = 2 ^ 56 * (16 * ((own_base u0 + own_off u0 a) % 16) + a) + r := by
  refine ⟨(u1 &&& (72057594037927935 : Int64)).toBitVec.toNat, ?_, ?_⟩
  · rw [Int64.toBitVec_and, BitVec.toNat_and]
    exact Nat.lt_of_le_of_lt Nat.and_le_right (by decide)
  · rw [own_kA, Int64.toBitVec_or, BitVec.toNat_or, own_LN _ (own_m16 _) _ ha]
    refine (Nat.two_pow_add_eq_or_of_lt ?_ _).symm
    rw [Int64.toBitVec_and, BitVec.toNat_and]
    exact Nat.lt_of_le_of_lt Nat.and_le_right (by decide)
theorem own_uN (x : Int64) : x.toInt % 18446744073709551616 = (x.toBitVec.toNat : Int) := by
  show x.toBitVec.toInt % 18446744073709551616 = _
  have := x.toBitVec.isLt
  rw [BitVec.toInt_eq_toNat_cond]
  split <;> omega
theorem own_homeK (u0 : Int32) (u1 : Int64) (a : Nat) (ha : a < 5) : own_home (own_kf u0 u1 a) = (own_base u0 + own_off u0 a) % 16 := by
  obtain ⟨r, hr, e⟩ := own_kN u0 u1 a ha
  unfold own_home
  rw [own_uN, e]
  have := own_m16 (own_base u0 + own_off u0 a)
  generalize (own_base u0 + own_off u0 a) % 16 = b at *
  omega
theorem own_kInj (u0 : Int32) (u1 : Int64) (a b : Nat) (ha : a < 5) (hb : b < 5) (h : own_kf u0 u1 a = own_kf u0 u1 b) : a = b := by
  obtain ⟨r, hr, e⟩ := own_kN u0 u1 a ha
  obtain ⟨r', hr', e'⟩ := own_kN u0 u1 b hb
  rw [h, e'] at e
  generalize (own_base u0 + own_off u0 a) % 16 = x at *
  generalize (own_base u0 + own_off u0 b) % 16 = y at *
  omega
theorem own_vT : ∀ a, a < 4 → ((Int32.ofNat a + (1 : Int32)).toInt64).toBitVec.toNat = a + 1 := by decide +kernel
theorem own_vnz (u2 : Int64) (a : Nat) (ha : a < 4) : own_vf u2 a ≠ 0 := by
  intro h
  have e := congrArg (fun x : Int64 => x.toBitVec.toNat) h
  unfold own_vf own_val at e
  simp only [Int64.toBitVec_or, BitVec.toNat_or] at e
  rw [own_vT a ha] at e
  have := @Nat.right_le_or ((u2 <<< ((3 : Int32) &&& 0x3f).toInt64).toBitVec.toNat) (a + 1)
  have z : (0 : Int64).toBitVec.toNat = 0 := by decide
  omega
theorem own_H4 (u0 : Int32) (u1 u2 : Int64) : own_H (own_kf u0 u1) (own_vf u2) (own_base u0) 4 [own_off u0 0, own_off u0 1, own_off u0 2, own_off u0 3, 0] := by
  have o0 := (own_offN u0 0).1
  have o1 := (own_offN u0 1).1
  have o2 := (own_offN u0 2).1
  have o3 := (own_offN u0 3).1
  refine ⟨Nat.le_refl _, fun a ha => ?_, fun a b ha hb h => own_kInj u0 u1 a b (by omega) (by omega) h, fun a ha => own_vnz u2 a ha, fun a => ?_⟩
  · rw [own_homeK u0 u1 a (by omega)]
    rcases a with _ | _ | _ | _ | a
    · rfl
    · rfl
    · rfl
    · rfl
    · omega
  · rcases a with _ | _ | _ | _ | _ | a
    · show own_off u0 0 < 16; omega
    · show own_off u0 1 < 16; omega
    · show own_off u0 2 < 16; omega
    · show own_off u0 3 < 16; omega
    · show 0 < 16; omega
    · show 0 < 16; omega
theorem own_H5 (u0 : Int32) (u1 u2 : Int64) : own_H (own_kf u0 u1) (own_vf u2) (own_base u0) 5 [own_off u0 0, own_off u0 1, own_off u0 2, own_off u0 3, own_off u0 4] := by
  have o0 := (own_offN u0 0).1
  have o1 := (own_offN u0 1).1
  have o2 := (own_offN u0 2).1
  have o3 := (own_offN u0 3).1
  have o4 := (own_offN u0 4).1
  refine ⟨by decide, fun a ha => ?_, fun a b ha hb h => own_kInj u0 u1 a b ha hb h, fun a ha => own_vnz u2 a ha, fun a => ?_⟩
  · rw [own_homeK u0 u1 a ha]
    rcases a with _ | _ | _ | _ | _ | a
    · rfl
    · rfl
    · rfl
    · rfl
    · rfl
    · omega
  · rcases a with _ | _ | _ | _ | _ | a
    · show own_off u0 0 < 16; omega
    · show own_off u0 1 < 16; omega
    · show own_off u0 2 < 16; omega
    · show own_off u0 3 < 16; omega
    · show own_off u0 4 < 16; omega
    · show 0 < 16; omega
theorem own_c00 : ∀ o0, o0 < 4 → ∀ o1, o1 < 4 → ∀ o2, o2 < 4 → ∀ o3, o3 < 4 → own_chk 0 0 [o0, o1, o2, o3, 0] = true := by decide +kernel
theorem own_c01 : ∀ o0, o0 < 4 → ∀ o1, o1 < 4 → ∀ o2, o2 < 4 → ∀ o3, o3 < 4 → own_chk 0 1 [o0, o1, o2, o3, 0] = true := by decide +kernel
theorem own_c02 : ∀ o0, o0 < 4 → ∀ o1, o1 < 4 → ∀ o2, o2 < 4 → ∀ o3, o3 < 4 → own_chk 0 2 [o0, o1, o2, o3, 0] = true := by decide +kernel
theorem own_c03 : ∀ o0, o0 < 4 → ∀ o1, o1 < 4 → ∀ o2, o2 < 4 → ∀ o3, o3 < 4 → own_chk 0 3 [o0, o1, o2, o3, 0] = true := by decide +kernel
theorem own_c04 : ∀ o0, o0 < 4 → ∀ o1, o1 < 4 → ∀ o2, o2 < 4 → ∀ o3, o3 < 4 → ∀ o4, o4 < 4 → own_chk 0 4 [o0, o1, o2, o3, o4] = true := by decide +kernel
theorem own_c10 : ∀ o0, o0 < 4 → ∀ o1, o1 < 4 → ∀ o2, o2 < 4 → ∀ o3, o3 < 4 → own_chk 1 0 [o0, o1, o2, o3, 0] = true := by decide +kernel
theorem own_c11 : ∀ o0, o0 < 4 → ∀ o1, o1 < 4 → ∀ o2, o2 < 4 → ∀ o3, o3 < 4 → own_chk 1 1 [o0, o1, o2, o3, 0] = true := by decide +kernel
theorem own_c12 : ∀ o0, o0 < 4 → ∀ o1, o1 < 4 → ∀ o2, o2 < 4 → ∀ o3, o3 < 4 → own_chk 1 2 [o0, o1, o2, o3, 0] = true := by decide +kernel
theorem own_c13 : ∀ o0, o0 < 4 → ∀ o1, o1 < 4 → ∀ o2, o2 < 4 → ∀ o3, o3 < 4 → own_chk 1 3 [o0, o1, o2, o3, 0] = true := by decide +kernel
theorem own_c14 : ∀ o0, o0 < 4 → ∀ o1, o1 < 4 → ∀ o2, o2 < 4 → ∀ o3, o3 < 4 → ∀ o4, o4 < 4 → own_chk 1 4 [o0, o1, o2, o3, o4] = true := by decide +kernel
theorem own_c20 : ∀ o0, o0 < 4 → ∀ o1, o1 < 4 → ∀ o2, o2 < 4 → ∀ o3, o3 < 4 → own_chk 2 0 [o0, o1, o2, o3, 0] = true := by decide +kernel
theorem own_c21 : ∀ o0, o0 < 4 → ∀ o1, o1 < 4 → ∀ o2, o2 < 4 → ∀ o3, o3 < 4 → own_chk 2 1 [o0, o1, o2, o3, 0] = true := by decide +kernel
theorem own_c22 : ∀ o0, o0 < 4 → ∀ o1, o1 < 4 → ∀ o2, o2 < 4 → ∀ o3, o3 < 4 → own_chk 2 2 [o0, o1, o2, o3, 0] = true := by decide +kernel
theorem own_c23 : ∀ o0, o0 < 4 → ∀ o1, o1 < 4 → ∀ o2, o2 < 4 → ∀ o3, o3 < 4 → own_chk 2 3 [o0, o1, o2, o3, 0] = true := by decide +kernel
theorem own_c24 : ∀ o0, o0 < 4 → ∀ o1, o1 < 4 → ∀ o2, o2 < 4 → ∀ o3, o3 < 4 → ∀ o4, o4 < 4 → own_chk 2 4 [o0, o1, o2, o3, o4] = true := by decide +kernel
theorem own_c30 : ∀ o0, o0 < 4 → ∀ o1, o1 < 4 → ∀ o2, o2 < 4 → ∀ o3, o3 < 4 → own_chk 3 0 [o0, o1, o2, o3, 0] = true := by decide +kernel
theorem own_c31 : ∀ o0, o0 < 4 → ∀ o1, o1 < 4 → ∀ o2, o2 < 4 → ∀ o3, o3 < 4 → own_chk 3 1 [o0, o1, o2, o3, 0] = true := by decide +kernel
theorem own_c32 : ∀ o0, o0 < 4 → ∀ o1, o1 < 4 → ∀ o2, o2 < 4 → ∀ o3, o3 < 4 → own_chk 3 2 [o0, o1, o2, o3, 0] = true := by decide +kernel
theorem own_c33 : ∀ o0, o0 < 4 → ∀ o1, o1 < 4 → ∀ o2, o2 < 4 → ∀ o3, o3 < 4 → own_chk 3 3 [o0, o1, o2, o3, 0] = true := by decide +kernel
theorem own_c34 : ∀ o0, o0 < 4 → ∀ o1, o1 < 4 → ∀ o2, o2 < 4 → ∀ o3, o3 < 4 → ∀ o4, o4 < 4 → own_chk 3 4 [o0, o1, o2, o3, o4] = true := by decide +kernel
theorem own_c40 : ∀ o0, o0 < 4 → ∀ o1, o1 < 4 → ∀ o2, o2 < 4 → ∀ o3, o3 < 4 → own_chk 4 0 [o0, o1, o2, o3, 0] = true := by decide +kernel
theorem own_c41 : ∀ o0, o0 < 4 → ∀ o1, o1 < 4 → ∀ o2, o2 < 4 → ∀ o3, o3 < 4 → own_chk 4 1 [o0, o1, o2, o3, 0] = true := by decide +kernel
theorem own_c42 : ∀ o0, o0 < 4 → ∀ o1, o1 < 4 → ∀ o2, o2 < 4 → ∀ o3, o3 < 4 → own_chk 4 2 [o0, o1, o2, o3, 0] = true := by decide +kernel
theorem own_c43 : ∀ o0, o0 < 4 → ∀ o1, o1 < 4 → ∀ o2, o2 < 4 → ∀ o3, o3 < 4 → own_chk 4 3 [o0, o1, o2, o3, 0] = true := by decide +kernel
theorem own_c44 : ∀ o0, o0 < 4 → ∀ o1, o1 < 4 → ∀ o2, o2 < 4 → ∀ o3, o3 < 4 → ∀ o4, o4 < 4 → own_chk 4 4 [o0, o1, o2, o3, o4] = true := by decide +kernel
theorem own_n5 (u : Int32) : ((u &&& (7 : Int32)) - ((u &&& (7 : Int32)) / (5 : Int32)) * (5 : Int32)) = (0 : Int32) ∨ ((u &&& (7 : Int32)) - ((u &&& (7 : Int32)) / (5 : Int32)) * (5 : Int32)) = (1 : Int32) ∨ ((u &&& (7 : Int32)) - ((u &&& (7 : Int32)) / (5 : Int32)) * (5 : Int32)) = (2 : Int32) ∨ ((u &&& (7 : Int32)) - ((u &&& (7 : Int32)) / (5 : Int32)) * (5 : Int32)) = (3 : Int32) ∨ ((u &&& (7 : Int32)) - ((u &&& (7 : Int32)) / (5 : Int32)) * (5 : Int32)) = (4 : Int32) := by
  have m := c_mask u 7 3 (by decide) (by decide)
  generalize (u &&& (7 : Int32)) = v at *
  have r := rng32 v
  have d := (c_idiv v 5 5 rfl (by decide)).1 (by omega)
  have h2 := c_imul (v / 5) 5
  have r2 := rng32 ((v / 5) * 5)
  have h3 := c_isub v ((v / 5) * 5)
  have r3 := rng32 (v - (v / 5) * 5)
  simp only [Int32.reduceToInt] at h2
  simp only [← Int32.toInt_inj, Int32.reduceToInt]
  omega
theorem own_pd9 : parseMethodDescriptor "(IJJ)Z" = some ⟨[.int, .long, .long], some .boolean⟩ := by decide +kernel
def Q0 (Z : State) (u0 : Int32) (u1 : Int64) (u2 : Int64) (h0 : Heap) (n0 : Nat) (v : Option Value) (h : Heap) (L : List Loc) : Prop := v = some (.int 1) ∧ Fr n0 L
theorem ef_0 (m : MethodId) (x0 : Int32) (x1 : Int64) (x2 : Int64) : entryFrame m #[(.int x0), (.long x1), (.long x2)] maxLocals = mkF m 0 #[.val (.int x0), .val (.long x1), .second, .val (.long x2), .second, .unset, .unset, .unset, .unset, .unset, .unset, .unset, .unset, .unset, .unset, .unset, .unset] [] := by first | (simp [entryFrame, mkF, argsToLocals, Value.category, maxLocals]; done) | rfl
set_option maxRecDepth 65536 in
set_option maxHeartbeats 40000000 in
theorem rm0 (l : Launch) (Z : State) (a0 : Array Value) (hw : ∀ d ∈ tables_1, d.before a0 Z = true) (ws : List Jvm.Cond) (u0 : Int32) (u1 : Int64) (u2 : Int64) (h0 : Heap) (n0 : Nat) (Z0 : n0 ≤ h0.size)  :
    MetFree l x (head1 (Jvm.Cond.code x code maxLocals ret :: ws) room_1) (fun a U => a = #[(.int u0), (.long u1), (.long u2)] ∧ Z.Warmed39 U.vm ∧ U.heap = h0) (fun _ _ _ _ _ => True) (fun _ U o U' => ∃ v L, o = .returned v ∧ Q0 Z u0 u1 u2 h0 n0 v U'.heap L ∧ FrameEnd U o U' L 24 192) := by
  refine MetFree.of_bodySF (plainFor_of_name own_pn0) hisR ?_
  intro p e s m args below meth c s₁ Bd hml0 hP hK
  obtain ⟨rfl, hZ, hh⟩ := hP
  have hx := Bd.exec
  have hby := Bd.bytes
  have hml : c.maxLocals = 17 := hml0
  have hown : s.vm.findClass "quillvax/store/LongMapRemovePinLaw" = some m.cls := findClass_of_methodNamed Bd.named
  have hnm := (name_of_methodNamed Bd.named Bd.method).1
  have X0 : Stand p l e room_1 s m #[(.int u0), (.long u1), (.long u2)] below meth c s₁ [] 0 0 := Stand.of_body Bd
  have e0 : s₁.heap = h0 := by rw [← hh, Bd.state]; rfl
  have N0 := Fr.nil n0
  refine own_in ?_
  refine own_st (fun _ k => castTop (ef_0 m u0 u1 u2) k) ?_
  have K0 : Keep h0 h0 [] := Keep.refl h0 []
  show own_Go _ _ _ _ (s₁.setTop (mkF m 0 #[.val (.int u0), .val (.long u1), .second, .val (.long u2), .second, .unset, .unset, .unset, .unset, .unset, .unset, .unset, .unset, .unset, .unset, .unset, .unset] []))
  refine own_st (fun _ k => X0.ldc2Long hx hown (mvT hZ (hw _ (List.mem_of_getElem? (i := 0) rfl))) (g := (mkF m 0 #[.val (.int u0), .val (.long u1), .second, .val (.long u2), .second, .unset, .unset, .unset, .unset, .unset, .unset, .unset, .unset, .unset, .unset, .unset, .unset] [])) rfl (hb hby at_0) _ k) ?_
  show own_Go _ _ _ _ (s₁.setTop (mkF m 3 #[.val (.int u0), .val (.long u1), .second, .val (.long u2), .second, .unset, .unset, .unset, .unset, .unset, .unset, .unset, .unset, .unset, .unset, .unset, .unset] [(.long (-7046029254386353131 : Int64))]))
  obtain ⟨_, _, ⟨T80, L80, k80, n80⟩, -, X80, ⟨Lc80, hQ80, l80, y80, z80⟩, st80⟩ := Jvm.LawKit.callS X0 hx (y := (⟨"quillvax/store/LongMapRemovePinLaw", "inverse", "(J)J"⟩ : MethodName)) hown (mvT hZ (hw _ (List.mem_of_getElem? (i := 1) rfl))) (mvT hZ (hw _ (List.mem_of_getElem? (i := 2) rfl))) (mvT hZ (hw _ (List.mem_of_getElem? (i := 3) rfl))) (mvT hZ (hw _ (List.mem_of_getElem? (i := 4) rfl))) (by decide) (backOf (W := 0) (rm1 l Z a0 hw [] (-7046029254386353131 : Int64) h0 n0 Z0 ) hZ (hw _ (List.mem_of_getElem? (i := 4) rfl)) (hw _ (List.mem_of_getElem? (i := 3) rfl)) (by decide) (by decide)) (g := (mkF m 3 #[.val (.int u0), .val (.long u1), .second, .val (.long u2), .second, .unset, .unset, .unset, .unset, .unset, .unset, .unset, .unset, .unset, .unset, .unset, .unset] [(.long (-7046029254386353131 : Int64))])) rfl (by rw [hml]; rfl) (argsL := [(.long (-7046029254386353131 : Int64))]) (rest := []) (lenOf own_pd0 rfl) rfl (by show 2 * 0 + _ ≤ _; exact Nat.le_of_eq rfl) (hb hby at_3) (fun _ _ => ⟨rfl, e0, (by decide : 0 + 0 ≤ _), (by decide : 0 + 0 ≤ _)⟩)
  dsimp only [Pt.U, Pt.locs, Pt.cells, Pt.slots] at X80 l80 y80 z80 st80 hQ80
  rw [l80, y80, z80] at X80
  obtain ⟨rfl, Nq80, eq80⟩ := hQ80
  have N80 := Fr.app N0 Nq80
  refine own_st st80 ?_
  refine own_st (fun _ k => XS.lstore X80.here hx rfl (hb hby at_6) rfl (l' := #[.val (.int u0), .val (.long u1), .second, .val (.long u2), .second, .val (.long (own_inv (-7046029254386353131 : Int64))), .second, .unset, .unset, .unset, .unset, .unset, .unset, .unset, .unset, .unset, .unset]) rfl k) ?_
  refine own_st (fun _ k => XS.iloadN X80.here hx rfl (hb hby at_8) rfl k) ?_
  refine own_st (fun _ k => XS.bipush X80.here hx rfl (hb hby at_9) k) ?_
  refine own_st (fun _ k => XS.iushr X80.here hx rfl (hb hby at_11) rfl k) ?_
  refine own_st (fun _ k => XS.bipush X80.here hx rfl (hb hby at_12) k) ?_
  refine own_st (fun _ k => XS.iand X80.here hx rfl (hb hby at_14) rfl k) ?_
  refine own_st (fun _ k => XS.iconst X80.here hx rfl (hb hby at_15) k) ?_
  show own_Go _ _ _ _ (T80.setTop (mkF m 16 #[.val (.int u0), .val (.long u1), .second, .val (.long u2), .second, .val (.long (own_inv (-7046029254386353131 : Int64))), .second, .unset, .unset, .unset, .unset, .unset, .unset, .unset, .unset, .unset, .unset] [(.int (5 : Int32)), (.int (((u0.toUInt32 >>> ((17 : Int32) &&& 31).toUInt32).toInt32) &&& (7 : Int32)))]))
  refine own_st (fun _ k => XS.irem X80.here hx rfl (hb hby at_16) rfl (by decide : ¬ ((5 : Int32) = (0 : Int32))) k) ?_
  refine own_st (fun _ k => XS.istore X80.here hx rfl (hb hby at_17) rfl (l' := #[.val (.int u0), .val (.long u1), .second, .val (.long u2), .second, .val (.long (own_inv (-7046029254386353131 : Int64))), .second, .val (.int ((((u0.toUInt32 >>> ((17 : Int32) &&& 31).toUInt32).toInt32) &&& (7 : Int32)) - ((((u0.toUInt32 >>> ((17 : Int32) &&& 31).toUInt32).toInt32) &&& (7 : Int32)) / (5 : Int32)) * (5 : Int32))), .unset, .unset, .unset, .unset, .unset, .unset, .unset, .unset, .unset]) rfl k) ?_
  refine own_st (fun _ k => XS.iloadN X80.here hx rfl (hb hby at_19) rfl k) ?_
  refine own_st (fun _ k => XS.bipush X80.here hx rfl (hb hby at_20) k) ?_
  refine own_st (fun _ k => XS.iushr X80.here hx rfl (hb hby at_22) rfl k) ?_
  refine own_st (fun _ k => XS.bipush X80.here hx rfl (hb hby at_23) k) ?_
  refine own_st (fun _ k => XS.iand X80.here hx rfl (hb hby at_25) rfl k) ?_
  refine own_st (fun _ k => XS.iconst X80.here hx rfl (hb hby at_26) k) ?_
  show own_Go _ _ _ _ (T80.setTop (mkF m 27 #[.val (.int u0), .val (.long u1), .second, .val (.long u2), .second, .val (.long (own_inv (-7046029254386353131 : Int64))), .second, .val (.int ((((u0.toUInt32 >>> ((17 : Int32) &&& 31).toUInt32).toInt32) &&& (7 : Int32)) - ((((u0.toUInt32 >>> ((17 : Int32) &&& 31).toUInt32).toInt32) &&& (7 : Int32)) / (5 : Int32)) * (5 : Int32))), .unset, .unset, .unset, .unset, .unset, .unset, .unset, .unset, .unset] [(.int (5 : Int32)), (.int (((u0.toUInt32 >>> ((14 : Int32) &&& 31).toUInt32).toInt32) &&& (7 : Int32)))]))
  refine own_st (fun _ k => XS.irem X80.here hx rfl (hb hby at_27) rfl (by decide : ¬ ((5 : Int32) = (0 : Int32))) k) ?_
  refine own_st (fun _ k => XS.istore X80.here hx rfl (hb hby at_28) rfl (l' := #[.val (.int u0), .val (.long u1), .second, .val (.long u2), .second, .val (.long (own_inv (-7046029254386353131 : Int64))), .second, .val (.int ((((u0.toUInt32 >>> ((17 : Int32) &&& 31).toUInt32).toInt32) &&& (7 : Int32)) - ((((u0.toUInt32 >>> ((17 : Int32) &&& 31).toUInt32).toInt32) &&& (7 : Int32)) / (5 : Int32)) * (5 : Int32))), .val (.int ((((u0.toUInt32 >>> ((14 : Int32) &&& 31).toUInt32).toInt32) &&& (7 : Int32)) - ((((u0.toUInt32 >>> ((14 : Int32) &&& 31).toUInt32).toInt32) &&& (7 : Int32)) / (5 : Int32)) * (5 : Int32))), .unset, .unset, .unset, .unset, .unset, .unset, .unset, .unset]) rfl k) ?_
  refine own_st (fun _ k => XS.iconst X80.here hx rfl (hb hby at_30) k) ?_
  show own_Go _ _ _ _ (T80.setTop (mkF m 31 #[.val (.int u0), .val (.long u1), .second, .val (.long u2), .second, .val (.long (own_inv (-7046029254386353131 : Int64))), .second, .val (.int ((((u0.toUInt32 >>> ((17 : Int32) &&& 31).toUInt32).toInt32) &&& (7 : Int32)) - ((((u0.toUInt32 >>> ((17 : Int32) &&& 31).toUInt32).toInt32) &&& (7 : Int32)) / (5 : Int32)) * (5 : Int32))), .val (.int ((((u0.toUInt32 >>> ((14 : Int32) &&& 31).toUInt32).toInt32) &&& (7 : Int32)) - ((((u0.toUInt32 >>> ((14 : Int32) &&& 31).toUInt32).toInt32) &&& (7 : Int32)) / (5 : Int32)) * (5 : Int32))), .unset, .unset, .unset, .unset, .unset, .unset, .unset, .unset] [(.int (5 : Int32))]))
  obtain ⟨T81, h81, k81, X81, e81, E81, A81, st81⟩ := newP X80 hx hZ (hw _ (List.mem_of_getElem? (i := 6) rfl)) eq80 (g := (mkF m 31 #[.val (.int u0), .val (.long u1), .second, .val (.long u2), .second, .val (.long (own_inv (-7046029254386353131 : Int64))), .second, .val (.int ((((u0.toUInt32 >>> ((17 : Int32) &&& 31).toUInt32).toInt32) &&& (7 : Int32)) - ((((u0.toUInt32 >>> ((17 : Int32) &&& 31).toUInt32).toInt32) &&& (7 : Int32)) / (5 : Int32)) * (5 : Int32))), .val (.int ((((u0.toUInt32 >>> ((14 : Int32) &&& 31).toUInt32).toInt32) &&& (7 : Int32)) - ((((u0.toUInt32 >>> ((14 : Int32) &&& 31).toUInt32).toInt32) &&& (7 : Int32)) / (5 : Int32)) * (5 : Int32))), .unset, .unset, .unset, .unset, .unset, .unset, .unset, .unset] [(.int (5 : Int32))])) rfl (hb hby at_31) rfl (by decide : ¬ ((5 : Int32) < (0 : Int32))) (cap := 5) (by decide : ((5 : Int32)).toNatClampNeg ≤ 5) (by decide) (by decide) (by decide)
  obtain ⟨b81, g81⟩ : ∃ z, z = h0.size := ⟨_, rfl⟩
  rw [← g81] at A81 st81
  refine own_st st81 ?_
  have Z81 : n0 ≤ h81.size := Nat.le_trans Z0 E81.1
  have gnb81 : n0 ≤ b81 := Nat.le_trans Z0 (Nat.le_of_eq g81.symm)
  have gkb81 : h0.size ≤ b81 := Nat.le_trans K0.1 (Nat.le_of_eq g81.symm)
  have K81 : Keep h0 h81 [] := K0.ext E81
  have V81 : Arv Z h81 b81 k81 .long (5 : Int32) [(.long (0 : Int64)), (.long (0 : Int64)), (.long (0 : Int64)), (.long (0 : Int64)), (.long (0 : Int64))] (.long (0 : Int64)) := (Arv.new A81 (by decide : ¬ ((5 : Int32) < (0 : Int32)))).pad (pad_rep [] (.long (0 : Int64)) 5)
  refine own_st (fun _ k => XS.astore X81.here hx rfl (hb hby at_33) rfl rfl (l' := #[.val (.int u0), .val (.long u1), .second, .val (.long u2), .second, .val (.long (own_inv (-7046029254386353131 : Int64))), .second, .val (.int ((((u0.toUInt32 >>> ((17 : Int32) &&& 31).toUInt32).toInt32) &&& (7 : Int32)) - ((((u0.toUInt32 >>> ((17 : Int32) &&& 31).toUInt32).toInt32) &&& (7 : Int32)) / (5 : Int32)) * (5 : Int32))), .val (.int ((((u0.toUInt32 >>> ((14 : Int32) &&& 31).toUInt32).toInt32) &&& (7 : Int32)) - ((((u0.toUInt32 >>> ((14 : Int32) &&& 31).toUInt32).toInt32) &&& (7 : Int32)) / (5 : Int32)) * (5 : Int32))), .val (.ref b81), .unset, .unset, .unset, .unset, .unset, .unset, .unset]) rfl k) ?_
  refine own_st (fun _ k => XS.aload X81.here hx rfl (hb hby at_35) rfl rfl k) ?_
  refine own_st (fun _ k => XS.iconst X81.here hx rfl (hb hby at_37) k) ?_
  refine own_st (fun _ k => XS.iloadN X81.here hx rfl (hb hby at_38) rfl k) ?_
  refine own_st (fun _ k => XS.lloadN X81.here hx rfl (hb hby at_39) rfl k) ?_
  refine own_st (fun _ k => XS.lload X81.here hx rfl (hb hby at_40) rfl k) ?_
  refine own_st (fun _ k => XS.iconst X81.here hx rfl (hb hby at_42) k) ?_
  show own_Go _ _ _ _ (T81.setTop (mkF m 43 #[.val (.int u0), .val (.long u1), .second, .val (.long u2), .second, .val (.long (own_inv (-7046029254386353131 : Int64))), .second, .val (.int ((((u0.toUInt32 >>> ((17 : Int32) &&& 31).toUInt32).toInt32) &&& (7 : Int32)) - ((((u0.toUInt32 >>> ((17 : Int32) &&& 31).toUInt32).toInt32) &&& (7 : Int32)) / (5 : Int32)) * (5 : Int32))), .val (.int ((((u0.toUInt32 >>> ((14 : Int32) &&& 31).toUInt32).toInt32) &&& (7 : Int32)) - ((((u0.toUInt32 >>> ((14 : Int32) &&& 31).toUInt32).toInt32) &&& (7 : Int32)) / (5 : Int32)) * (5 : Int32))), .val (.ref b81), .unset, .unset, .unset, .unset, .unset, .unset, .unset] [(.int (0 : Int32)), (.long (own_inv (-7046029254386353131 : Int64))), (.long u1), (.int u0), (.int (0 : Int32)), (.ref b81)]))
  obtain ⟨_, _, ⟨T82, L82, k82, n82⟩, -, X82, ⟨Lc82, hQ82, l82, y82, z82⟩, st82⟩ := Jvm.LawKit.callS X81 hx (y := (⟨"quillvax/store/LongMapRemovePinLaw", "key", "(IJJI)J"⟩ : MethodName)) hown (mvT hZ (hw _ (List.mem_of_getElem? (i := 7) rfl))) (mvT hZ (hw _ (List.mem_of_getElem? (i := 8) rfl))) (mvT hZ (hw _ (List.mem_of_getElem? (i := 3) rfl))) (mvT hZ (hw _ (List.mem_of_getElem? (i := 9) rfl))) (by decide) (backOf (W := 2) (rm2 l Z a0 hw [] u0 u1 (own_inv (-7046029254386353131 : Int64)) (0 : Int32) h81 n0 Z81 ) hZ (hw _ (List.mem_of_getElem? (i := 9) rfl)) (hw _ (List.mem_of_getElem? (i := 3) rfl)) (by decide) (by decide)) (g := (mkF m 43 #[.val (.int u0), .val (.long u1), .second, .val (.long u2), .second, .val (.long (own_inv (-7046029254386353131 : Int64))), .second, .val (.int ((((u0.toUInt32 >>> ((17 : Int32) &&& 31).toUInt32).toInt32) &&& (7 : Int32)) - ((((u0.toUInt32 >>> ((17 : Int32) &&& 31).toUInt32).toInt32) &&& (7 : Int32)) / (5 : Int32)) * (5 : Int32))), .val (.int ((((u0.toUInt32 >>> ((14 : Int32) &&& 31).toUInt32).toInt32) &&& (7 : Int32)) - ((((u0.toUInt32 >>> ((14 : Int32) &&& 31).toUInt32).toInt32) &&& (7 : Int32)) / (5 : Int32)) * (5 : Int32))), .val (.ref b81), .unset, .unset, .unset, .unset, .unset, .unset, .unset] [(.int (0 : Int32)), (.long (own_inv (-7046029254386353131 : Int64))), (.long u1), (.int u0), (.int (0 : Int32)), (.ref b81)])) rfl (by rw [hml]; rfl) (argsL := [(.int u0), (.long u1), (.long (own_inv (-7046029254386353131 : Int64))), (.int (0 : Int32))]) (rest := [(.int (0 : Int32)), (.ref b81)]) (lenOf own_pd1 rfl) rfl (by show 2 * 0 + _ ≤ _; exact Nat.le_of_eq rfl) (hb hby at_43) (fun _ _ => ⟨rfl, e81, (by decide : 1 + 0 ≤ _), (by decide : 5 + 0 ≤ _)⟩)
  dsimp only [Pt.U, Pt.locs, Pt.cells, Pt.slots] at X82 l82 y82 z82 st82 hQ82
  rw [l82, y82, z82] at X82
  obtain ⟨rfl, Nq82, eq82⟩ := hQ82
  have N82 := Fr.app N80 Nq82
  refine own_st st82 ?_
  show own_Go _ _ _ _ (T82.setTop (mkF m 46 #[.val (.int u0), .val (.long u1), .second, .val (.long u2), .second, .val (.long (own_inv (-7046029254386353131 : Int64))), .second, .val (.int ((((u0.toUInt32 >>> ((17 : Int32) &&& 31).toUInt32).toInt32) &&& (7 : Int32)) - ((((u0.toUInt32 >>> ((17 : Int32) &&& 31).toUInt32).toInt32) &&& (7 : Int32)) / (5 : Int32)) * (5 : Int32))), .val (.int ((((u0.toUInt32 >>> ((14 : Int32) &&& 31).toUInt32).toInt32) &&& (7 : Int32)) - ((((u0.toUInt32 >>> ((14 : Int32) &&& 31).toUInt32).toInt32) &&& (7 : Int32)) / (5 : Int32)) * (5 : Int32))), .val (.ref b81), .unset, .unset, .unset, .unset, .unset, .unset, .unset] [(.long (own_kf u0 u1 0)), (.int (0 : Int32)), (.ref b81)]))
  obtain ⟨cl83, Ar83, Kd83, Sz83, Nn83, Hs83, Gs83⟩ := id V81
  obtain ⟨T83, h83, X83, e83, W83, st83⟩ := stJ X82 hx hZ eq82 Ar83 (j := (0 : Int32)) (inb_of Sz83 ⟨(by decide : ¬ ((0 : Int32) < (0 : Int32))), (by decide : (0 : Int32) < (5 : Int32))⟩) (g := (mkF m 46 #[.val (.int u0), .val (.long u1), .second, .val (.long u2), .second, .val (.long (own_inv (-7046029254386353131 : Int64))), .second, .val (.int ((((u0.toUInt32 >>> ((17 : Int32) &&& 31).toUInt32).toInt32) &&& (7 : Int32)) - ((((u0.toUInt32 >>> ((17 : Int32) &&& 31).toUInt32).toInt32) &&& (7 : Int32)) / (5 : Int32)) * (5 : Int32))), .val (.int ((((u0.toUInt32 >>> ((14 : Int32) &&& 31).toUInt32).toInt32) &&& (7 : Int32)) - ((((u0.toUInt32 >>> ((14 : Int32) &&& 31).toUInt32).toInt32) &&& (7 : Int32)) / (5 : Int32)) * (5 : Int32))), .val (.ref b81), .unset, .unset, .unset, .unset, .unset, .unset, .unset] [(.long (own_kf u0 u1 0)), (.int (0 : Int32)), (.ref b81)])) rfl rfl (hb hby at_46)
  refine own_st st83 ?_
  have V83 := Arv.set Ar83 Kd83 Sz83 Nn83 Hs83 Gs83 rfl W83 0 rfl (Nat.le_of_ble_eq_true rfl)
  have V83' : Arv Z h83 b81 k81 .long (5 : Int32) [(.long (own_kf u0 u1 0)), (.long (0 : Int64)), (.long (0 : Int64)), (.long (0 : Int64)), (.long (0 : Int64))] (.long (0 : Int64)) := V83
  have Z83 : n0 ≤ h83.size := Nat.le_trans Z81 (Nat.le_of_eq W83.size.symm)
  have N83 := Fr.snoc X83 N82 gnb81
  have K83 : Keep h0 h83 [] := K81.wr W83 (Or.inr gkb81)
  refine own_st (fun _ k => XS.aload X83.here hx rfl (hb hby at_47) rfl rfl k) ?_
  refine own_st (fun _ k => XS.iconst X83.here hx rfl (hb hby at_49) k) ?_
  refine own_st (fun _ k => XS.iloadN X83.here hx rfl (hb hby at_50) rfl k) ?_
  refine own_st (fun _ k => XS.lloadN X83.here hx rfl (hb hby at_51) rfl k) ?_
  refine own_st (fun _ k => XS.lload X83.here hx rfl (hb hby at_52) rfl k) ?_
  refine own_st (fun _ k => XS.iconst X83.here hx rfl (hb hby at_54) k) ?_
  show own_Go _ _ _ _ (T83.setTop (mkF m 55 #[.val (.int u0), .val (.long u1), .second, .val (.long u2), .second, .val (.long (own_inv (-7046029254386353131 : Int64))), .second, .val (.int ((((u0.toUInt32 >>> ((17 : Int32) &&& 31).toUInt32).toInt32) &&& (7 : Int32)) - ((((u0.toUInt32 >>> ((17 : Int32) &&& 31).toUInt32).toInt32) &&& (7 : Int32)) / (5 : Int32)) * (5 : Int32))), .val (.int ((((u0.toUInt32 >>> ((14 : Int32) &&& 31).toUInt32).toInt32) &&& (7 : Int32)) - ((((u0.toUInt32 >>> ((14 : Int32) &&& 31).toUInt32).toInt32) &&& (7 : Int32)) / (5 : Int32)) * (5 : Int32))), .val (.ref b81), .unset, .unset, .unset, .unset, .unset, .unset, .unset] [(.int (1 : Int32)), (.long (own_inv (-7046029254386353131 : Int64))), (.long u1), (.int u0), (.int (1 : Int32)), (.ref b81)]))
  obtain ⟨_, _, ⟨T84, L84, k84, n84⟩, -, X84, ⟨Lc84, hQ84, l84, y84, z84⟩, st84⟩ := Jvm.LawKit.callS X83 hx (y := (⟨"quillvax/store/LongMapRemovePinLaw", "key", "(IJJI)J"⟩ : MethodName)) hown (mvT hZ (hw _ (List.mem_of_getElem? (i := 7) rfl))) (mvT hZ (hw _ (List.mem_of_getElem? (i := 8) rfl))) (mvT hZ (hw _ (List.mem_of_getElem? (i := 3) rfl))) (mvT hZ (hw _ (List.mem_of_getElem? (i := 9) rfl))) (by decide) (backOf (W := 2) (rm2 l Z a0 hw [] u0 u1 (own_inv (-7046029254386353131 : Int64)) (1 : Int32) h83 n0 Z83 ) hZ (hw _ (List.mem_of_getElem? (i := 9) rfl)) (hw _ (List.mem_of_getElem? (i := 3) rfl)) (by decide) (by decide)) (g := (mkF m 55 #[.val (.int u0), .val (.long u1), .second, .val (.long u2), .second, .val (.long (own_inv (-7046029254386353131 : Int64))), .second, .val (.int ((((u0.toUInt32 >>> ((17 : Int32) &&& 31).toUInt32).toInt32) &&& (7 : Int32)) - ((((u0.toUInt32 >>> ((17 : Int32) &&& 31).toUInt32).toInt32) &&& (7 : Int32)) / (5 : Int32)) * (5 : Int32))), .val (.int ((((u0.toUInt32 >>> ((14 : Int32) &&& 31).toUInt32).toInt32) &&& (7 : Int32)) - ((((u0.toUInt32 >>> ((14 : Int32) &&& 31).toUInt32).toInt32) &&& (7 : Int32)) / (5 : Int32)) * (5 : Int32))), .val (.ref b81), .unset, .unset, .unset, .unset, .unset, .unset, .unset] [(.int (1 : Int32)), (.long (own_inv (-7046029254386353131 : Int64))), (.long u1), (.int u0), (.int (1 : Int32)), (.ref b81)])) rfl (by rw [hml]; rfl) (argsL := [(.int u0), (.long u1), (.long (own_inv (-7046029254386353131 : Int64))), (.int (1 : Int32))]) (rest := [(.int (1 : Int32)), (.ref b81)]) (lenOf own_pd1 rfl) rfl (by show 2 * 0 + _ ≤ _; exact Nat.le_of_eq rfl) (hb hby at_55) (fun _ _ => ⟨rfl, e83, (by decide : 1 + 0 ≤ _), (by decide : 5 + 0 ≤ _)⟩)
  dsimp only [Pt.U, Pt.locs, Pt.cells, Pt.slots] at X84 l84 y84 z84 st84 hQ84
  rw [l84, y84, z84] at X84
  obtain ⟨rfl, Nq84, eq84⟩ := hQ84
  have N84 := Fr.app N83 Nq84
  refine own_st st84 ?_
  show own_Go _ _ _ _ (T84.setTop (mkF m 58 #[.val (.int u0), .val (.long u1), .second, .val (.long u2), .second, .val (.long (own_inv (-7046029254386353131 : Int64))), .second, .val (.int ((((u0.toUInt32 >>> ((17 : Int32) &&& 31).toUInt32).toInt32) &&& (7 : Int32)) - ((((u0.toUInt32 >>> ((17 : Int32) &&& 31).toUInt32).toInt32) &&& (7 : Int32)) / (5 : Int32)) * (5 : Int32))), .val (.int ((((u0.toUInt32 >>> ((14 : Int32) &&& 31).toUInt32).toInt32) &&& (7 : Int32)) - ((((u0.toUInt32 >>> ((14 : Int32) &&& 31).toUInt32).toInt32) &&& (7 : Int32)) / (5 : Int32)) * (5 : Int32))), .val (.ref b81), .unset, .unset, .unset, .unset, .unset, .unset, .unset] [(.long (own_kf u0 u1 1)), (.int (1 : Int32)), (.ref b81)]))
  obtain ⟨cl85, Ar85, Kd85, Sz85, Nn85, Hs85, Gs85⟩ := id V83'
  obtain ⟨T85, h85, X85, e85, W85, st85⟩ := stJ X84 hx hZ eq84 Ar85 (j := (1 : Int32)) (inb_of Sz85 ⟨(by decide : ¬ ((1 : Int32) < (0 : Int32))), (by decide : (1 : Int32) < (5 : Int32))⟩) (g := (mkF m 58 #[.val (.int u0), .val (.long u1), .second, .val (.long u2), .second, .val (.long (own_inv (-7046029254386353131 : Int64))), .second, .val (.int ((((u0.toUInt32 >>> ((17 : Int32) &&& 31).toUInt32).toInt32) &&& (7 : Int32)) - ((((u0.toUInt32 >>> ((17 : Int32) &&& 31).toUInt32).toInt32) &&& (7 : Int32)) / (5 : Int32)) * (5 : Int32))), .val (.int ((((u0.toUInt32 >>> ((14 : Int32) &&& 31).toUInt32).toInt32) &&& (7 : Int32)) - ((((u0.toUInt32 >>> ((14 : Int32) &&& 31).toUInt32).toInt32) &&& (7 : Int32)) / (5 : Int32)) * (5 : Int32))), .val (.ref b81), .unset, .unset, .unset, .unset, .unset, .unset, .unset] [(.long (own_kf u0 u1 1)), (.int (1 : Int32)), (.ref b81)])) rfl rfl (hb hby at_58)
  refine own_st st85 ?_
  have V85 := Arv.set Ar85 Kd85 Sz85 Nn85 Hs85 Gs85 rfl W85 1 rfl (Nat.le_of_ble_eq_true rfl)
  have V85' : Arv Z h85 b81 k81 .long (5 : Int32) [(.long (own_kf u0 u1 0)), (.long (own_kf u0 u1 1)), (.long (0 : Int64)), (.long (0 : Int64)), (.long (0 : Int64))] (.long (0 : Int64)) := V85
  have Z85 : n0 ≤ h85.size := Nat.le_trans Z83 (Nat.le_of_eq W85.size.symm)
  have N85 := Fr.snoc X85 N84 gnb81
  have K85 : Keep h0 h85 [] := K83.wr W85 (Or.inr gkb81)
  refine own_st (fun _ k => XS.aload X85.here hx rfl (hb hby at_59) rfl rfl k) ?_
  refine own_st (fun _ k => XS.iconst X85.here hx rfl (hb hby at_61) k) ?_
  refine own_st (fun _ k => XS.iloadN X85.here hx rfl (hb hby at_62) rfl k) ?_
  refine own_st (fun _ k => XS.lloadN X85.here hx rfl (hb hby at_63) rfl k) ?_
  refine own_st (fun _ k => XS.lload X85.here hx rfl (hb hby at_64) rfl k) ?_
  refine own_st (fun _ k => XS.iconst X85.here hx rfl (hb hby at_66) k) ?_
  show own_Go _ _ _ _ (T85.setTop (mkF m 67 #[.val (.int u0), .val (.long u1), .second, .val (.long u2), .second, .val (.long (own_inv (-7046029254386353131 : Int64))), .second, .val (.int ((((u0.toUInt32 >>> ((17 : Int32) &&& 31).toUInt32).toInt32) &&& (7 : Int32)) - ((((u0.toUInt32 >>> ((17 : Int32) &&& 31).toUInt32).toInt32) &&& (7 : Int32)) / (5 : Int32)) * (5 : Int32))), .val (.int ((((u0.toUInt32 >>> ((14 : Int32) &&& 31).toUInt32).toInt32) &&& (7 : Int32)) - ((((u0.toUInt32 >>> ((14 : Int32) &&& 31).toUInt32).toInt32) &&& (7 : Int32)) / (5 : Int32)) * (5 : Int32))), .val (.ref b81), .unset, .unset, .unset, .unset, .unset, .unset, .unset] [(.int (2 : Int32)), (.long (own_inv (-7046029254386353131 : Int64))), (.long u1), (.int u0), (.int (2 : Int32)), (.ref b81)]))
  obtain ⟨_, _, ⟨T86, L86, k86, n86⟩, -, X86, ⟨Lc86, hQ86, l86, y86, z86⟩, st86⟩ := Jvm.LawKit.callS X85 hx (y := (⟨"quillvax/store/LongMapRemovePinLaw", "key", "(IJJI)J"⟩ : MethodName)) hown (mvT hZ (hw _ (List.mem_of_getElem? (i := 7) rfl))) (mvT hZ (hw _ (List.mem_of_getElem? (i := 8) rfl))) (mvT hZ (hw _ (List.mem_of_getElem? (i := 3) rfl))) (mvT hZ (hw _ (List.mem_of_getElem? (i := 9) rfl))) (by decide) (backOf (W := 2) (rm2 l Z a0 hw [] u0 u1 (own_inv (-7046029254386353131 : Int64)) (2 : Int32) h85 n0 Z85 ) hZ (hw _ (List.mem_of_getElem? (i := 9) rfl)) (hw _ (List.mem_of_getElem? (i := 3) rfl)) (by decide) (by decide)) (g := (mkF m 67 #[.val (.int u0), .val (.long u1), .second, .val (.long u2), .second, .val (.long (own_inv (-7046029254386353131 : Int64))), .second, .val (.int ((((u0.toUInt32 >>> ((17 : Int32) &&& 31).toUInt32).toInt32) &&& (7 : Int32)) - ((((u0.toUInt32 >>> ((17 : Int32) &&& 31).toUInt32).toInt32) &&& (7 : Int32)) / (5 : Int32)) * (5 : Int32))), .val (.int ((((u0.toUInt32 >>> ((14 : Int32) &&& 31).toUInt32).toInt32) &&& (7 : Int32)) - ((((u0.toUInt32 >>> ((14 : Int32) &&& 31).toUInt32).toInt32) &&& (7 : Int32)) / (5 : Int32)) * (5 : Int32))), .val (.ref b81), .unset, .unset, .unset, .unset, .unset, .unset, .unset] [(.int (2 : Int32)), (.long (own_inv (-7046029254386353131 : Int64))), (.long u1), (.int u0), (.int (2 : Int32)), (.ref b81)])) rfl (by rw [hml]; rfl) (argsL := [(.int u0), (.long u1), (.long (own_inv (-7046029254386353131 : Int64))), (.int (2 : Int32))]) (rest := [(.int (2 : Int32)), (.ref b81)]) (lenOf own_pd1 rfl) rfl (by show 2 * 0 + _ ≤ _; exact Nat.le_of_eq rfl) (hb hby at_67) (fun _ _ => ⟨rfl, e85, (by decide : 1 + 0 ≤ _), (by decide : 5 + 0 ≤ _)⟩)
  dsimp only [Pt.U, Pt.locs, Pt.cells, Pt.slots] at X86 l86 y86 z86 st86 hQ86
  rw [l86, y86, z86] at X86
  obtain ⟨rfl, Nq86, eq86⟩ := hQ86
  have N86 := Fr.app N85 Nq86
  refine own_st st86 ?_
  show own_Go _ _ _ _ (T86.setTop (mkF m 70 #[.val (.int u0), .val (.long u1), .second, .val (.long u2), .second, .val (.long (own_inv (-7046029254386353131 : Int64))), .second, .val (.int ((((u0.toUInt32 >>> ((17 : Int32) &&& 31).toUInt32).toInt32) &&& (7 : Int32)) - ((((u0.toUInt32 >>> ((17 : Int32) &&& 31).toUInt32).toInt32) &&& (7 : Int32)) / (5 : Int32)) * (5 : Int32))), .val (.int ((((u0.toUInt32 >>> ((14 : Int32) &&& 31).toUInt32).toInt32) &&& (7 : Int32)) - ((((u0.toUInt32 >>> ((14 : Int32) &&& 31).toUInt32).toInt32) &&& (7 : Int32)) / (5 : Int32)) * (5 : Int32))), .val (.ref b81), .unset, .unset, .unset, .unset, .unset, .unset, .unset] [(.long (own_kf u0 u1 2)), (.int (2 : Int32)), (.ref b81)]))
  obtain ⟨cl87, Ar87, Kd87, Sz87, Nn87, Hs87, Gs87⟩ := id V85'
  obtain ⟨T87, h87, X87, e87, W87, st87⟩ := stJ X86 hx hZ eq86 Ar87 (j := (2 : Int32)) (inb_of Sz87 ⟨(by decide : ¬ ((2 : Int32) < (0 : Int32))), (by decide : (2 : Int32) < (5 : Int32))⟩) (g := (mkF m 70 #[.val (.int u0), .val (.long u1), .second, .val (.long u2), .second, .val (.long (own_inv (-7046029254386353131 : Int64))), .second, .val (.int ((((u0.toUInt32 >>> ((17 : Int32) &&& 31).toUInt32).toInt32) &&& (7 : Int32)) - ((((u0.toUInt32 >>> ((17 : Int32) &&& 31).toUInt32).toInt32) &&& (7 : Int32)) / (5 : Int32)) * (5 : Int32))), .val (.int ((((u0.toUInt32 >>> ((14 : Int32) &&& 31).toUInt32).toInt32) &&& (7 : Int32)) - ((((u0.toUInt32 >>> ((14 : Int32) &&& 31).toUInt32).toInt32) &&& (7 : Int32)) / (5 : Int32)) * (5 : Int32))), .val (.ref b81), .unset, .unset, .unset, .unset, .unset, .unset, .unset] [(.long (own_kf u0 u1 2)), (.int (2 : Int32)), (.ref b81)])) rfl rfl (hb hby at_70)
  refine own_st st87 ?_
  have V87 := Arv.set Ar87 Kd87 Sz87 Nn87 Hs87 Gs87 rfl W87 2 rfl (Nat.le_of_ble_eq_true rfl)
  have V87' : Arv Z h87 b81 k81 .long (5 : Int32) [(.long (own_kf u0 u1 0)), (.long (own_kf u0 u1 1)), (.long (own_kf u0 u1 2)), (.long (0 : Int64)), (.long (0 : Int64))] (.long (0 : Int64)) := V87
  have Z87 : n0 ≤ h87.size := Nat.le_trans Z85 (Nat.le_of_eq W87.size.symm)
  have N87 := Fr.snoc X87 N86 gnb81
  have K87 : Keep h0 h87 [] := K85.wr W87 (Or.inr gkb81)
  refine own_st (fun _ k => XS.aload X87.here hx rfl (hb hby at_71) rfl rfl k) ?_
  refine own_st (fun _ k => XS.iconst X87.here hx rfl (hb hby at_73) k) ?_
  refine own_st (fun _ k => XS.iloadN X87.here hx rfl (hb hby at_74) rfl k) ?_
  refine own_st (fun _ k => XS.lloadN X87.here hx rfl (hb hby at_75) rfl k) ?_
  refine own_st (fun _ k => XS.lload X87.here hx rfl (hb hby at_76) rfl k) ?_
  refine own_st (fun _ k => XS.iconst X87.here hx rfl (hb hby at_78) k) ?_
  show own_Go _ _ _ _ (T87.setTop (mkF m 79 #[.val (.int u0), .val (.long u1), .second, .val (.long u2), .second, .val (.long (own_inv (-7046029254386353131 : Int64))), .second, .val (.int ((((u0.toUInt32 >>> ((17 : Int32) &&& 31).toUInt32).toInt32) &&& (7 : Int32)) - ((((u0.toUInt32 >>> ((17 : Int32) &&& 31).toUInt32).toInt32) &&& (7 : Int32)) / (5 : Int32)) * (5 : Int32))), .val (.int ((((u0.toUInt32 >>> ((14 : Int32) &&& 31).toUInt32).toInt32) &&& (7 : Int32)) - ((((u0.toUInt32 >>> ((14 : Int32) &&& 31).toUInt32).toInt32) &&& (7 : Int32)) / (5 : Int32)) * (5 : Int32))), .val (.ref b81), .unset, .unset, .unset, .unset, .unset, .unset, .unset] [(.int (3 : Int32)), (.long (own_inv (-7046029254386353131 : Int64))), (.long u1), (.int u0), (.int (3 : Int32)), (.ref b81)]))
  obtain ⟨_, _, ⟨T88, L88, k88, n88⟩, -, X88, ⟨Lc88, hQ88, l88, y88, z88⟩, st88⟩ := Jvm.LawKit.callS X87 hx (y := (⟨"quillvax/store/LongMapRemovePinLaw", "key", "(IJJI)J"⟩ : MethodName)) hown (mvT hZ (hw _ (List.mem_of_getElem? (i := 7) rfl))) (mvT hZ (hw _ (List.mem_of_getElem? (i := 8) rfl))) (mvT hZ (hw _ (List.mem_of_getElem? (i := 3) rfl))) (mvT hZ (hw _ (List.mem_of_getElem? (i := 9) rfl))) (by decide) (backOf (W := 2) (rm2 l Z a0 hw [] u0 u1 (own_inv (-7046029254386353131 : Int64)) (3 : Int32) h87 n0 Z87 ) hZ (hw _ (List.mem_of_getElem? (i := 9) rfl)) (hw _ (List.mem_of_getElem? (i := 3) rfl)) (by decide) (by decide)) (g := (mkF m 79 #[.val (.int u0), .val (.long u1), .second, .val (.long u2), .second, .val (.long (own_inv (-7046029254386353131 : Int64))), .second, .val (.int ((((u0.toUInt32 >>> ((17 : Int32) &&& 31).toUInt32).toInt32) &&& (7 : Int32)) - ((((u0.toUInt32 >>> ((17 : Int32) &&& 31).toUInt32).toInt32) &&& (7 : Int32)) / (5 : Int32)) * (5 : Int32))), .val (.int ((((u0.toUInt32 >>> ((14 : Int32) &&& 31).toUInt32).toInt32) &&& (7 : Int32)) - ((((u0.toUInt32 >>> ((14 : Int32) &&& 31).toUInt32).toInt32) &&& (7 : Int32)) / (5 : Int32)) * (5 : Int32))), .val (.ref b81), .unset, .unset, .unset, .unset, .unset, .unset, .unset] [(.int (3 : Int32)), (.long (own_inv (-7046029254386353131 : Int64))), (.long u1), (.int u0), (.int (3 : Int32)), (.ref b81)])) rfl (by rw [hml]; rfl) (argsL := [(.int u0), (.long u1), (.long (own_inv (-7046029254386353131 : Int64))), (.int (3 : Int32))]) (rest := [(.int (3 : Int32)), (.ref b81)]) (lenOf own_pd1 rfl) rfl (by show 2 * 0 + _ ≤ _; exact Nat.le_of_eq rfl) (hb hby at_79) (fun _ _ => ⟨rfl, e87, (by decide : 1 + 0 ≤ _), (by decide : 5 + 0 ≤ _)⟩)
  dsimp only [Pt.U, Pt.locs, Pt.cells, Pt.slots] at X88 l88 y88 z88 st88 hQ88
  rw [l88, y88, z88] at X88
  obtain ⟨rfl, Nq88, eq88⟩ := hQ88
  have N88 := Fr.app N87 Nq88
  refine own_st st88 ?_
  show own_Go _ _ _ _ (T88.setTop (mkF m 82 #[.val (.int u0), .val (.long u1), .second, .val (.long u2), .second, .val (.long (own_inv (-7046029254386353131 : Int64))), .second, .val (.int ((((u0.toUInt32 >>> ((17 : Int32) &&& 31).toUInt32).toInt32) &&& (7 : Int32)) - ((((u0.toUInt32 >>> ((17 : Int32) &&& 31).toUInt32).toInt32) &&& (7 : Int32)) / (5 : Int32)) * (5 : Int32))), .val (.int ((((u0.toUInt32 >>> ((14 : Int32) &&& 31).toUInt32).toInt32) &&& (7 : Int32)) - ((((u0.toUInt32 >>> ((14 : Int32) &&& 31).toUInt32).toInt32) &&& (7 : Int32)) / (5 : Int32)) * (5 : Int32))), .val (.ref b81), .unset, .unset, .unset, .unset, .unset, .unset, .unset] [(.long (own_kf u0 u1 3)), (.int (3 : Int32)), (.ref b81)]))
  obtain ⟨cl89, Ar89, Kd89, Sz89, Nn89, Hs89, Gs89⟩ := id V87'
  obtain ⟨T89, h89, X89, e89, W89, st89⟩ := stJ X88 hx hZ eq88 Ar89 (j := (3 : Int32)) (inb_of Sz89 ⟨(by decide : ¬ ((3 : Int32) < (0 : Int32))), (by decide : (3 : Int32) < (5 : Int32))⟩) (g := (mkF m 82 #[.val (.int u0), .val (.long u1), .second, .val (.long u2), .second, .val (.long (own_inv (-7046029254386353131 : Int64))), .second, .val (.int ((((u0.toUInt32 >>> ((17 : Int32) &&& 31).toUInt32).toInt32) &&& (7 : Int32)) - ((((u0.toUInt32 >>> ((17 : Int32) &&& 31).toUInt32).toInt32) &&& (7 : Int32)) / (5 : Int32)) * (5 : Int32))), .val (.int ((((u0.toUInt32 >>> ((14 : Int32) &&& 31).toUInt32).toInt32) &&& (7 : Int32)) - ((((u0.toUInt32 >>> ((14 : Int32) &&& 31).toUInt32).toInt32) &&& (7 : Int32)) / (5 : Int32)) * (5 : Int32))), .val (.ref b81), .unset, .unset, .unset, .unset, .unset, .unset, .unset] [(.long (own_kf u0 u1 3)), (.int (3 : Int32)), (.ref b81)])) rfl rfl (hb hby at_82)
  refine own_st st89 ?_
  have V89 := Arv.set Ar89 Kd89 Sz89 Nn89 Hs89 Gs89 rfl W89 3 rfl (Nat.le_of_ble_eq_true rfl)
  have V89' : Arv Z h89 b81 k81 .long (5 : Int32) [(.long (own_kf u0 u1 0)), (.long (own_kf u0 u1 1)), (.long (own_kf u0 u1 2)), (.long (own_kf u0 u1 3)), (.long (0 : Int64))] (.long (0 : Int64)) := V89
  have Z89 : n0 ≤ h89.size := Nat.le_trans Z87 (Nat.le_of_eq W89.size.symm)
  have N89 := Fr.snoc X89 N88 gnb81
  have K89 : Keep h0 h89 [] := K87.wr W89 (Or.inr gkb81)
  refine own_st (fun _ k => XS.aload X89.here hx rfl (hb hby at_83) rfl rfl k) ?_
  refine own_st (fun _ k => XS.iconst X89.here hx rfl (hb hby at_85) k) ?_
  refine own_st (fun _ k => XS.iloadN X89.here hx rfl (hb hby at_86) rfl k) ?_
  refine own_st (fun _ k => XS.lloadN X89.here hx rfl (hb hby at_87) rfl k) ?_
  refine own_st (fun _ k => XS.lload X89.here hx rfl (hb hby at_88) rfl k) ?_
  refine own_st (fun _ k => XS.iconst X89.here hx rfl (hb hby at_90) k) ?_
  show own_Go _ _ _ _ (T89.setTop (mkF m 91 #[.val (.int u0), .val (.long u1), .second, .val (.long u2), .second, .val (.long (own_inv (-7046029254386353131 : Int64))), .second, .val (.int ((((u0.toUInt32 >>> ((17 : Int32) &&& 31).toUInt32).toInt32) &&& (7 : Int32)) - ((((u0.toUInt32 >>> ((17 : Int32) &&& 31).toUInt32).toInt32) &&& (7 : Int32)) / (5 : Int32)) * (5 : Int32))), .val (.int ((((u0.toUInt32 >>> ((14 : Int32) &&& 31).toUInt32).toInt32) &&& (7 : Int32)) - ((((u0.toUInt32 >>> ((14 : Int32) &&& 31).toUInt32).toInt32) &&& (7 : Int32)) / (5 : Int32)) * (5 : Int32))), .val (.ref b81), .unset, .unset, .unset, .unset, .unset, .unset, .unset] [(.int (4 : Int32)), (.long (own_inv (-7046029254386353131 : Int64))), (.long u1), (.int u0), (.int (4 : Int32)), (.ref b81)]))
  obtain ⟨_, _, ⟨T90, L90, k90, n90⟩, -, X90, ⟨Lc90, hQ90, l90, y90, z90⟩, st90⟩ := Jvm.LawKit.callS X89 hx (y := (⟨"quillvax/store/LongMapRemovePinLaw", "key", "(IJJI)J"⟩ : MethodName)) hown (mvT hZ (hw _ (List.mem_of_getElem? (i := 7) rfl))) (mvT hZ (hw _ (List.mem_of_getElem? (i := 8) rfl))) (mvT hZ (hw _ (List.mem_of_getElem? (i := 3) rfl))) (mvT hZ (hw _ (List.mem_of_getElem? (i := 9) rfl))) (by decide) (backOf (W := 2) (rm2 l Z a0 hw [] u0 u1 (own_inv (-7046029254386353131 : Int64)) (4 : Int32) h89 n0 Z89 ) hZ (hw _ (List.mem_of_getElem? (i := 9) rfl)) (hw _ (List.mem_of_getElem? (i := 3) rfl)) (by decide) (by decide)) (g := (mkF m 91 #[.val (.int u0), .val (.long u1), .second, .val (.long u2), .second, .val (.long (own_inv (-7046029254386353131 : Int64))), .second, .val (.int ((((u0.toUInt32 >>> ((17 : Int32) &&& 31).toUInt32).toInt32) &&& (7 : Int32)) - ((((u0.toUInt32 >>> ((17 : Int32) &&& 31).toUInt32).toInt32) &&& (7 : Int32)) / (5 : Int32)) * (5 : Int32))), .val (.int ((((u0.toUInt32 >>> ((14 : Int32) &&& 31).toUInt32).toInt32) &&& (7 : Int32)) - ((((u0.toUInt32 >>> ((14 : Int32) &&& 31).toUInt32).toInt32) &&& (7 : Int32)) / (5 : Int32)) * (5 : Int32))), .val (.ref b81), .unset, .unset, .unset, .unset, .unset, .unset, .unset] [(.int (4 : Int32)), (.long (own_inv (-7046029254386353131 : Int64))), (.long u1), (.int u0), (.int (4 : Int32)), (.ref b81)])) rfl (by rw [hml]; rfl) (argsL := [(.int u0), (.long u1), (.long (own_inv (-7046029254386353131 : Int64))), (.int (4 : Int32))]) (rest := [(.int (4 : Int32)), (.ref b81)]) (lenOf own_pd1 rfl) rfl (by show 2 * 0 + _ ≤ _; exact Nat.le_of_eq rfl) (hb hby at_91) (fun _ _ => ⟨rfl, e89, (by decide : 1 + 0 ≤ _), (by decide : 5 + 0 ≤ _)⟩)
  dsimp only [Pt.U, Pt.locs, Pt.cells, Pt.slots] at X90 l90 y90 z90 st90 hQ90
  rw [l90, y90, z90] at X90
  obtain ⟨rfl, Nq90, eq90⟩ := hQ90
  have N90 := Fr.app N89 Nq90
  refine own_st st90 ?_
  show own_Go _ _ _ _ (T90.setTop (mkF m 94 #[.val (.int u0), .val (.long u1), .second, .val (.long u2), .second, .val (.long (own_inv (-7046029254386353131 : Int64))), .second, .val (.int ((((u0.toUInt32 >>> ((17 : Int32) &&& 31).toUInt32).toInt32) &&& (7 : Int32)) - ((((u0.toUInt32 >>> ((17 : Int32) &&& 31).toUInt32).toInt32) &&& (7 : Int32)) / (5 : Int32)) * (5 : Int32))), .val (.int ((((u0.toUInt32 >>> ((14 : Int32) &&& 31).toUInt32).toInt32) &&& (7 : Int32)) - ((((u0.toUInt32 >>> ((14 : Int32) &&& 31).toUInt32).toInt32) &&& (7 : Int32)) / (5 : Int32)) * (5 : Int32))), .val (.ref b81), .unset, .unset, .unset, .unset, .unset, .unset, .unset] [(.long (own_kf u0 u1 4)), (.int (4 : Int32)), (.ref b81)]))
  obtain ⟨cl91, Ar91, Kd91, Sz91, Nn91, Hs91, Gs91⟩ := id V89'
  obtain ⟨T91, h91, X91, e91, W91, st91⟩ := stJ X90 hx hZ eq90 Ar91 (j := (4 : Int32)) (inb_of Sz91 ⟨(by decide : ¬ ((4 : Int32) < (0 : Int32))), (by decide : (4 : Int32) < (5 : Int32))⟩) (g := (mkF m 94 #[.val (.int u0), .val (.long u1), .second, .val (.long u2), .second, .val (.long (own_inv (-7046029254386353131 : Int64))), .second, .val (.int ((((u0.toUInt32 >>> ((17 : Int32) &&& 31).toUInt32).toInt32) &&& (7 : Int32)) - ((((u0.toUInt32 >>> ((17 : Int32) &&& 31).toUInt32).toInt32) &&& (7 : Int32)) / (5 : Int32)) * (5 : Int32))), .val (.int ((((u0.toUInt32 >>> ((14 : Int32) &&& 31).toUInt32).toInt32) &&& (7 : Int32)) - ((((u0.toUInt32 >>> ((14 : Int32) &&& 31).toUInt32).toInt32) &&& (7 : Int32)) / (5 : Int32)) * (5 : Int32))), .val (.ref b81), .unset, .unset, .unset, .unset, .unset, .unset, .unset] [(.long (own_kf u0 u1 4)), (.int (4 : Int32)), (.ref b81)])) rfl rfl (hb hby at_94)
  refine own_st st91 ?_
  have V91 := Arv.set Ar91 Kd91 Sz91 Nn91 Hs91 Gs91 rfl W91 4 rfl (Nat.le_of_ble_eq_true rfl)
  have V91' : Arv Z h91 b81 k81 .long (5 : Int32) [(.long (own_kf u0 u1 0)), (.long (own_kf u0 u1 1)), (.long (own_kf u0 u1 2)), (.long (own_kf u0 u1 3)), (.long (own_kf u0 u1 4))] (.long (0 : Int64)) := V91
  have Z91 : n0 ≤ h91.size := Nat.le_trans Z89 (Nat.le_of_eq W91.size.symm)
  have N91 := Fr.snoc X91 N90 gnb81
  have K91 : Keep h0 h91 [] := K89.wr W91 (Or.inr gkb81)
  refine own_st (fun _ k => XS.iconst X91.here hx rfl (hb hby at_95) k) ?_
  show own_Go _ _ _ _ (T91.setTop (mkF m 96 #[.val (.int u0), .val (.long u1), .second, .val (.long u2), .second, .val (.long (own_inv (-7046029254386353131 : Int64))), .second, .val (.int ((((u0.toUInt32 >>> ((17 : Int32) &&& 31).toUInt32).toInt32) &&& (7 : Int32)) - ((((u0.toUInt32 >>> ((17 : Int32) &&& 31).toUInt32).toInt32) &&& (7 : Int32)) / (5 : Int32)) * (5 : Int32))), .val (.int ((((u0.toUInt32 >>> ((14 : Int32) &&& 31).toUInt32).toInt32) &&& (7 : Int32)) - ((((u0.toUInt32 >>> ((14 : Int32) &&& 31).toUInt32).toInt32) &&& (7 : Int32)) / (5 : Int32)) * (5 : Int32))), .val (.ref b81), .unset, .unset, .unset, .unset, .unset, .unset, .unset] [(.int (4 : Int32))]))
  obtain ⟨T92, h92, k92, X92, e92, E92, A92, st92⟩ := newP X91 hx hZ (hw _ (List.mem_of_getElem? (i := 6) rfl)) e91 (g := (mkF m 96 #[.val (.int u0), .val (.long u1), .second, .val (.long u2), .second, .val (.long (own_inv (-7046029254386353131 : Int64))), .second, .val (.int ((((u0.toUInt32 >>> ((17 : Int32) &&& 31).toUInt32).toInt32) &&& (7 : Int32)) - ((((u0.toUInt32 >>> ((17 : Int32) &&& 31).toUInt32).toInt32) &&& (7 : Int32)) / (5 : Int32)) * (5 : Int32))), .val (.int ((((u0.toUInt32 >>> ((14 : Int32) &&& 31).toUInt32).toInt32) &&& (7 : Int32)) - ((((u0.toUInt32 >>> ((14 : Int32) &&& 31).toUInt32).toInt32) &&& (7 : Int32)) / (5 : Int32)) * (5 : Int32))), .val (.ref b81), .unset, .unset, .unset, .unset, .unset, .unset, .unset] [(.int (4 : Int32))])) rfl (hb hby at_96) rfl (by decide : ¬ ((4 : Int32) < (0 : Int32))) (cap := 4) (by decide : ((4 : Int32)).toNatClampNeg ≤ 4) (by decide) (by decide) (by decide)
  obtain ⟨b92, g92⟩ : ∃ z, z = h91.size := ⟨_, rfl⟩
  rw [← g92] at A92 st92
  refine own_st st92 ?_
  have neb81_b92 : b81 ≠ b92 := Nat.ne_of_lt (Nat.lt_of_lt_of_le V91'.lt (Nat.le_of_eq g92.symm))
  have x92_V_b81 := V91'.ext E92
  have Z92 : n0 ≤ h92.size := Nat.le_trans Z91 E92.1
  have gnb92 : n0 ≤ b92 := Nat.le_trans Z91 (Nat.le_of_eq g92.symm)
  have gkb92 : h0.size ≤ b92 := Nat.le_trans K91.1 (Nat.le_of_eq g92.symm)
  have K92 : Keep h0 h92 [] := K91.ext E92
  have V92 : Arv Z h92 b92 k92 .long (4 : Int32) [(.long (0 : Int64)), (.long (0 : Int64)), (.long (0 : Int64)), (.long (0 : Int64))] (.long (0 : Int64)) := (Arv.new A92 (by decide : ¬ ((4 : Int32) < (0 : Int32)))).pad (pad_rep [] (.long (0 : Int64)) 4)
  refine own_st (fun _ k => XS.astore X92.here hx rfl (hb hby at_98) rfl rfl (l' := #[.val (.int u0), .val (.long u1), .second, .val (.long u2), .second, .val (.long (own_inv (-7046029254386353131 : Int64))), .second, .val (.int ((((u0.toUInt32 >>> ((17 : Int32) &&& 31).toUInt32).toInt32) &&& (7 : Int32)) - ((((u0.toUInt32 >>> ((17 : Int32) &&& 31).toUInt32).toInt32) &&& (7 : Int32)) / (5 : Int32)) * (5 : Int32))), .val (.int ((((u0.toUInt32 >>> ((14 : Int32) &&& 31).toUInt32).toInt32) &&& (7 : Int32)) - ((((u0.toUInt32 >>> ((14 : Int32) &&& 31).toUInt32).toInt32) &&& (7 : Int32)) / (5 : Int32)) * (5 : Int32))), .val (.ref b81), .val (.ref b92), .unset, .unset, .unset, .unset, .unset, .unset]) rfl k) ?_
  refine own_st (fun _ k => XS.aload X92.here hx rfl (hb hby at_100) rfl rfl k) ?_
  refine own_st (fun _ k => XS.iconst X92.here hx rfl (hb hby at_102) k) ?_
  refine own_st (fun _ k => XS.lloadN X92.here hx rfl (hb hby at_103) rfl k) ?_
  refine own_st (fun _ k => XS.iconst X92.here hx rfl (hb hby at_104) k) ?_
  show own_Go _ _ _ _ (T92.setTop (mkF m 105 #[.val (.int u0), .val (.long u1), .second, .val (.long u2), .second, .val (.long (own_inv (-7046029254386353131 : Int64))), .second, .val (.int ((((u0.toUInt32 >>> ((17 : Int32) &&& 31).toUInt32).toInt32) &&& (7 : Int32)) - ((((u0.toUInt32 >>> ((17 : Int32) &&& 31).toUInt32).toInt32) &&& (7 : Int32)) / (5 : Int32)) * (5 : Int32))), .val (.int ((((u0.toUInt32 >>> ((14 : Int32) &&& 31).toUInt32).toInt32) &&& (7 : Int32)) - ((((u0.toUInt32 >>> ((14 : Int32) &&& 31).toUInt32).toInt32) &&& (7 : Int32)) / (5 : Int32)) * (5 : Int32))), .val (.ref b81), .val (.ref b92), .unset, .unset, .unset, .unset, .unset, .unset] [(.int (0 : Int32)), (.long u2), (.int (0 : Int32)), (.ref b92)]))
  obtain ⟨_, _, ⟨T93, L93, k93, n93⟩, -, X93, ⟨Lc93, hQ93, l93, y93, z93⟩, st93⟩ := Jvm.LawKit.callS X92 hx (y := (⟨"quillvax/store/LongMapRemovePinLaw", "value", "(JI)J"⟩ : MethodName)) hown (mvT hZ (hw _ (List.mem_of_getElem? (i := 11) rfl))) (mvT hZ (hw _ (List.mem_of_getElem? (i := 12) rfl))) (mvT hZ (hw _ (List.mem_of_getElem? (i := 3) rfl))) (mvT hZ (hw _ (List.mem_of_getElem? (i := 13) rfl))) (by decide) (backOf (W := 2) (rm3 l Z a0 hw [] u2 (0 : Int32) h92 n0 Z92 ) hZ (hw _ (List.mem_of_getElem? (i := 13) rfl)) (hw _ (List.mem_of_getElem? (i := 3) rfl)) (by decide) (by decide)) (g := (mkF m 105 #[.val (.int u0), .val (.long u1), .second, .val (.long u2), .second, .val (.long (own_inv (-7046029254386353131 : Int64))), .second, .val (.int ((((u0.toUInt32 >>> ((17 : Int32) &&& 31).toUInt32).toInt32) &&& (7 : Int32)) - ((((u0.toUInt32 >>> ((17 : Int32) &&& 31).toUInt32).toInt32) &&& (7 : Int32)) / (5 : Int32)) * (5 : Int32))), .val (.int ((((u0.toUInt32 >>> ((14 : Int32) &&& 31).toUInt32).toInt32) &&& (7 : Int32)) - ((((u0.toUInt32 >>> ((14 : Int32) &&& 31).toUInt32).toInt32) &&& (7 : Int32)) / (5 : Int32)) * (5 : Int32))), .val (.ref b81), .val (.ref b92), .unset, .unset, .unset, .unset, .unset, .unset] [(.int (0 : Int32)), (.long u2), (.int (0 : Int32)), (.ref b92)])) rfl (by rw [hml]; rfl) (argsL := [(.long u2), (.int (0 : Int32))]) (rest := [(.int (0 : Int32)), (.ref b92)]) (lenOf own_pd2 rfl) rfl (by show 2 * 0 + _ ≤ _; exact Nat.le_of_eq rfl) (hb hby at_105) (fun _ _ => ⟨rfl, e92, (by decide : 2 + 0 ≤ _), (by decide : 9 + 0 ≤ _)⟩)
  dsimp only [Pt.U, Pt.locs, Pt.cells, Pt.slots] at X93 l93 y93 z93 st93 hQ93
  rw [l93, y93, z93] at X93
  obtain ⟨rfl, Nq93, eq93⟩ := hQ93
  have N93 := Fr.app N91 Nq93
  refine own_st st93 ?_
  show own_Go _ _ _ _ (T93.setTop (mkF m 108 #[.val (.int u0), .val (.long u1), .second, .val (.long u2), .second, .val (.long (own_inv (-7046029254386353131 : Int64))), .second, .val (.int ((((u0.toUInt32 >>> ((17 : Int32) &&& 31).toUInt32).toInt32) &&& (7 : Int32)) - ((((u0.toUInt32 >>> ((17 : Int32) &&& 31).toUInt32).toInt32) &&& (7 : Int32)) / (5 : Int32)) * (5 : Int32))), .val (.int ((((u0.toUInt32 >>> ((14 : Int32) &&& 31).toUInt32).toInt32) &&& (7 : Int32)) - ((((u0.toUInt32 >>> ((14 : Int32) &&& 31).toUInt32).toInt32) &&& (7 : Int32)) / (5 : Int32)) * (5 : Int32))), .val (.ref b81), .val (.ref b92), .unset, .unset, .unset, .unset, .unset, .unset] [(.long (own_vf u2 0)), (.int (0 : Int32)), (.ref b92)]))
  obtain ⟨cl94, Ar94, Kd94, Sz94, Nn94, Hs94, Gs94⟩ := id V92
  obtain ⟨T94, h94, X94, e94, W94, st94⟩ := stJ X93 hx hZ eq93 Ar94 (j := (0 : Int32)) (inb_of Sz94 ⟨(by decide : ¬ ((0 : Int32) < (0 : Int32))), (by decide : (0 : Int32) < (4 : Int32))⟩) (g := (mkF m 108 #[.val (.int u0), .val (.long u1), .second, .val (.long u2), .second, .val (.long (own_inv (-7046029254386353131 : Int64))), .second, .val (.int ((((u0.toUInt32 >>> ((17 : Int32) &&& 31).toUInt32).toInt32) &&& (7 : Int32)) - ((((u0.toUInt32 >>> ((17 : Int32) &&& 31).toUInt32).toInt32) &&& (7 : Int32)) / (5 : Int32)) * (5 : Int32))), .val (.int ((((u0.toUInt32 >>> ((14 : Int32) &&& 31).toUInt32).toInt32) &&& (7 : Int32)) - ((((u0.toUInt32 >>> ((14 : Int32) &&& 31).toUInt32).toInt32) &&& (7 : Int32)) / (5 : Int32)) * (5 : Int32))), .val (.ref b81), .val (.ref b92), .unset, .unset, .unset, .unset, .unset, .unset] [(.long (own_vf u2 0)), (.int (0 : Int32)), (.ref b92)])) rfl rfl (hb hby at_108)
  refine own_st st94 ?_
  have V94 := Arv.set Ar94 Kd94 Sz94 Nn94 Hs94 Gs94 rfl W94 0 rfl (Nat.le_of_ble_eq_true rfl)
  have V94' : Arv Z h94 b92 k92 .long (4 : Int32) [(.long (own_vf u2 0)), (.long (0 : Int64)), (.long (0 : Int64)), (.long (0 : Int64))] (.long (0 : Int64)) := V94
  have y94_V_b81 := x92_V_b81.other W94 neb81_b92
  have Z94 : n0 ≤ h94.size := Nat.le_trans Z92 (Nat.le_of_eq W94.size.symm)
  have N94 := Fr.snoc X94 N93 gnb92
  have K94 : Keep h0 h94 [] := K92.wr W94 (Or.inr gkb92)
  refine own_st (fun _ k => XS.aload X94.here hx rfl (hb hby at_109) rfl rfl k) ?_
  refine own_st (fun _ k => XS.iconst X94.here hx rfl (hb hby at_111) k) ?_
  refine own_st (fun _ k => XS.lloadN X94.here hx rfl (hb hby at_112) rfl k) ?_
  refine own_st (fun _ k => XS.iconst X94.here hx rfl (hb hby at_113) k) ?_
  show own_Go _ _ _ _ (T94.setTop (mkF m 114 #[.val (.int u0), .val (.long u1), .second, .val (.long u2), .second, .val (.long (own_inv (-7046029254386353131 : Int64))), .second, .val (.int ((((u0.toUInt32 >>> ((17 : Int32) &&& 31).toUInt32).toInt32) &&& (7 : Int32)) - ((((u0.toUInt32 >>> ((17 : Int32) &&& 31).toUInt32).toInt32) &&& (7 : Int32)) / (5 : Int32)) * (5 : Int32))), .val (.int ((((u0.toUInt32 >>> ((14 : Int32) &&& 31).toUInt32).toInt32) &&& (7 : Int32)) - ((((u0.toUInt32 >>> ((14 : Int32) &&& 31).toUInt32).toInt32) &&& (7 : Int32)) / (5 : Int32)) * (5 : Int32))), .val (.ref b81), .val (.ref b92), .unset, .unset, .unset, .unset, .unset, .unset] [(.int (1 : Int32)), (.long u2), (.int (1 : Int32)), (.ref b92)]))
  obtain ⟨_, _, ⟨T95, L95, k95, n95⟩, -, X95, ⟨Lc95, hQ95, l95, y95, z95⟩, st95⟩ := Jvm.LawKit.callS X94 hx (y := (⟨"quillvax/store/LongMapRemovePinLaw", "value", "(JI)J"⟩ : MethodName)) hown (mvT hZ (hw _ (List.mem_of_getElem? (i := 11) rfl))) (mvT hZ (hw _ (List.mem_of_getElem? (i := 12) rfl))) (mvT hZ (hw _ (List.mem_of_getElem? (i := 3) rfl))) (mvT hZ (hw _ (List.mem_of_getElem? (i := 13) rfl))) (by decide) (backOf (W := 2) (rm3 l Z a0 hw [] u2 (1 : Int32) h94 n0 Z94 ) hZ (hw _ (List.mem_of_getElem? (i := 13) rfl)) (hw _ (List.mem_of_getElem? (i := 3) rfl)) (by decide) (by decide)) (g := (mkF m 114 #[.val (.int u0), .val (.long u1), .second, .val (.long u2), .second, .val (.long (own_inv (-7046029254386353131 : Int64))), .second, .val (.int ((((u0.toUInt32 >>> ((17 : Int32) &&& 31).toUInt32).toInt32) &&& (7 : Int32)) - ((((u0.toUInt32 >>> ((17 : Int32) &&& 31).toUInt32).toInt32) &&& (7 : Int32)) / (5 : Int32)) * (5 : Int32))), .val (.int ((((u0.toUInt32 >>> ((14 : Int32) &&& 31).toUInt32).toInt32) &&& (7 : Int32)) - ((((u0.toUInt32 >>> ((14 : Int32) &&& 31).toUInt32).toInt32) &&& (7 : Int32)) / (5 : Int32)) * (5 : Int32))), .val (.ref b81), .val (.ref b92), .unset, .unset, .unset, .unset, .unset, .unset] [(.int (1 : Int32)), (.long u2), (.int (1 : Int32)), (.ref b92)])) rfl (by rw [hml]; rfl) (argsL := [(.long u2), (.int (1 : Int32))]) (rest := [(.int (1 : Int32)), (.ref b92)]) (lenOf own_pd2 rfl) rfl (by show 2 * 0 + _ ≤ _; exact Nat.le_of_eq rfl) (hb hby at_114) (fun _ _ => ⟨rfl, e94, (by decide : 2 + 0 ≤ _), (by decide : 9 + 0 ≤ _)⟩)
  dsimp only [Pt.U, Pt.locs, Pt.cells, Pt.slots] at X95 l95 y95 z95 st95 hQ95
  rw [l95, y95, z95] at X95
  obtain ⟨rfl, Nq95, eq95⟩ := hQ95
  have N95 := Fr.app N94 Nq95
  refine own_st st95 ?_
  show own_Go _ _ _ _ (T95.setTop (mkF m 117 #[.val (.int u0), .val (.long u1), .second, .val (.long u2), .second, .val (.long (own_inv (-7046029254386353131 : Int64))), .second, .val (.int ((((u0.toUInt32 >>> ((17 : Int32) &&& 31).toUInt32).toInt32) &&& (7 : Int32)) - ((((u0.toUInt32 >>> ((17 : Int32) &&& 31).toUInt32).toInt32) &&& (7 : Int32)) / (5 : Int32)) * (5 : Int32))), .val (.int ((((u0.toUInt32 >>> ((14 : Int32) &&& 31).toUInt32).toInt32) &&& (7 : Int32)) - ((((u0.toUInt32 >>> ((14 : Int32) &&& 31).toUInt32).toInt32) &&& (7 : Int32)) / (5 : Int32)) * (5 : Int32))), .val (.ref b81), .val (.ref b92), .unset, .unset, .unset, .unset, .unset, .unset] [(.long (own_vf u2 1)), (.int (1 : Int32)), (.ref b92)]))
  obtain ⟨cl96, Ar96, Kd96, Sz96, Nn96, Hs96, Gs96⟩ := id V94'
  obtain ⟨T96, h96, X96, e96, W96, st96⟩ := stJ X95 hx hZ eq95 Ar96 (j := (1 : Int32)) (inb_of Sz96 ⟨(by decide : ¬ ((1 : Int32) < (0 : Int32))), (by decide : (1 : Int32) < (4 : Int32))⟩) (g := (mkF m 117 #[.val (.int u0), .val (.long u1), .second, .val (.long u2), .second, .val (.long (own_inv (-7046029254386353131 : Int64))), .second, .val (.int ((((u0.toUInt32 >>> ((17 : Int32) &&& 31).toUInt32).toInt32) &&& (7 : Int32)) - ((((u0.toUInt32 >>> ((17 : Int32) &&& 31).toUInt32).toInt32) &&& (7 : Int32)) / (5 : Int32)) * (5 : Int32))), .val (.int ((((u0.toUInt32 >>> ((14 : Int32) &&& 31).toUInt32).toInt32) &&& (7 : Int32)) - ((((u0.toUInt32 >>> ((14 : Int32) &&& 31).toUInt32).toInt32) &&& (7 : Int32)) / (5 : Int32)) * (5 : Int32))), .val (.ref b81), .val (.ref b92), .unset, .unset, .unset, .unset, .unset, .unset] [(.long (own_vf u2 1)), (.int (1 : Int32)), (.ref b92)])) rfl rfl (hb hby at_117)
  refine own_st st96 ?_
  have V96 := Arv.set Ar96 Kd96 Sz96 Nn96 Hs96 Gs96 rfl W96 1 rfl (Nat.le_of_ble_eq_true rfl)
  have V96' : Arv Z h96 b92 k92 .long (4 : Int32) [(.long (own_vf u2 0)), (.long (own_vf u2 1)), (.long (0 : Int64)), (.long (0 : Int64))] (.long (0 : Int64)) := V96
  have y96_V_b81 := y94_V_b81.other W96 neb81_b92
  have Z96 : n0 ≤ h96.size := Nat.le_trans Z94 (Nat.le_of_eq W96.size.symm)
  have N96 := Fr.snoc X96 N95 gnb92
  have K96 : Keep h0 h96 [] := K94.wr W96 (Or.inr gkb92)
  refine own_st (fun _ k => XS.aload X96.here hx rfl (hb hby at_118) rfl rfl k) ?_
  refine own_st (fun _ k => XS.iconst X96.here hx rfl (hb hby at_120) k) ?_
  refine own_st (fun _ k => XS.lloadN X96.here hx rfl (hb hby at_121) rfl k) ?_
  refine own_st (fun _ k => XS.iconst X96.here hx rfl (hb hby at_122) k) ?_
  show own_Go _ _ _ _ (T96.setTop (mkF m 123 #[.val (.int u0), .val (.long u1), .second, .val (.long u2), .second, .val (.long (own_inv (-7046029254386353131 : Int64))), .second, .val (.int ((((u0.toUInt32 >>> ((17 : Int32) &&& 31).toUInt32).toInt32) &&& (7 : Int32)) - ((((u0.toUInt32 >>> ((17 : Int32) &&& 31).toUInt32).toInt32) &&& (7 : Int32)) / (5 : Int32)) * (5 : Int32))), .val (.int ((((u0.toUInt32 >>> ((14 : Int32) &&& 31).toUInt32).toInt32) &&& (7 : Int32)) - ((((u0.toUInt32 >>> ((14 : Int32) &&& 31).toUInt32).toInt32) &&& (7 : Int32)) / (5 : Int32)) * (5 : Int32))), .val (.ref b81), .val (.ref b92), .unset, .unset, .unset, .unset, .unset, .unset] [(.int (2 : Int32)), (.long u2), (.int (2 : Int32)), (.ref b92)]))
  obtain ⟨_, _, ⟨T97, L97, k97, n97⟩, -, X97, ⟨Lc97, hQ97, l97, y97, z97⟩, st97⟩ := Jvm.LawKit.callS X96 hx (y := (⟨"quillvax/store/LongMapRemovePinLaw", "value", "(JI)J"⟩ : MethodName)) hown (mvT hZ (hw _ (List.mem_of_getElem? (i := 11) rfl))) (mvT hZ (hw _ (List.mem_of_getElem? (i := 12) rfl))) (mvT hZ (hw _ (List.mem_of_getElem? (i := 3) rfl))) (mvT hZ (hw _ (List.mem_of_getElem? (i := 13) rfl))) (by decide) (backOf (W := 2) (rm3 l Z a0 hw [] u2 (2 : Int32) h96 n0 Z96 ) hZ (hw _ (List.mem_of_getElem? (i := 13) rfl)) (hw _ (List.mem_of_getElem? (i := 3) rfl)) (by decide) (by decide)) (g := (mkF m 123 #[.val (.int u0), .val (.long u1), .second, .val (.long u2), .second, .val (.long (own_inv (-7046029254386353131 : Int64))), .second, .val (.int ((((u0.toUInt32 >>> ((17 : Int32) &&& 31).toUInt32).toInt32) &&& (7 : Int32)) - ((((u0.toUInt32 >>> ((17 : Int32) &&& 31).toUInt32).toInt32) &&& (7 : Int32)) / (5 : Int32)) * (5 : Int32))), .val (.int ((((u0.toUInt32 >>> ((14 : Int32) &&& 31).toUInt32).toInt32) &&& (7 : Int32)) - ((((u0.toUInt32 >>> ((14 : Int32) &&& 31).toUInt32).toInt32) &&& (7 : Int32)) / (5 : Int32)) * (5 : Int32))), .val (.ref b81), .val (.ref b92), .unset, .unset, .unset, .unset, .unset, .unset] [(.int (2 : Int32)), (.long u2), (.int (2 : Int32)), (.ref b92)])) rfl (by rw [hml]; rfl) (argsL := [(.long u2), (.int (2 : Int32))]) (rest := [(.int (2 : Int32)), (.ref b92)]) (lenOf own_pd2 rfl) rfl (by show 2 * 0 + _ ≤ _; exact Nat.le_of_eq rfl) (hb hby at_123) (fun _ _ => ⟨rfl, e96, (by decide : 2 + 0 ≤ _), (by decide : 9 + 0 ≤ _)⟩)
  dsimp only [Pt.U, Pt.locs, Pt.cells, Pt.slots] at X97 l97 y97 z97 st97 hQ97
  rw [l97, y97, z97] at X97
  obtain ⟨rfl, Nq97, eq97⟩ := hQ97
  have N97 := Fr.app N96 Nq97
  refine own_st st97 ?_
  show own_Go _ _ _ _ (T97.setTop (mkF m 126 #[.val (.int u0), .val (.long u1), .second, .val (.long u2), .second, .val (.long (own_inv (-7046029254386353131 : Int64))), .second, .val (.int ((((u0.toUInt32 >>> ((17 : Int32) &&& 31).toUInt32).toInt32) &&& (7 : Int32)) - ((((u0.toUInt32 >>> ((17 : Int32) &&& 31).toUInt32).toInt32) &&& (7 : Int32)) / (5 : Int32)) * (5 : Int32))), .val (.int ((((u0.toUInt32 >>> ((14 : Int32) &&& 31).toUInt32).toInt32) &&& (7 : Int32)) - ((((u0.toUInt32 >>> ((14 : Int32) &&& 31).toUInt32).toInt32) &&& (7 : Int32)) / (5 : Int32)) * (5 : Int32))), .val (.ref b81), .val (.ref b92), .unset, .unset, .unset, .unset, .unset, .unset] [(.long (own_vf u2 2)), (.int (2 : Int32)), (.ref b92)]))
  obtain ⟨cl98, Ar98, Kd98, Sz98, Nn98, Hs98, Gs98⟩ := id V96'
  obtain ⟨T98, h98, X98, e98, W98, st98⟩ := stJ X97 hx hZ eq97 Ar98 (j := (2 : Int32)) (inb_of Sz98 ⟨(by decide : ¬ ((2 : Int32) < (0 : Int32))), (by decide : (2 : Int32) < (4 : Int32))⟩) (g := (mkF m 126 #[.val (.int u0), .val (.long u1), .second, .val (.long u2), .second, .val (.long (own_inv (-7046029254386353131 : Int64))), .second, .val (.int ((((u0.toUInt32 >>> ((17 : Int32) &&& 31).toUInt32).toInt32) &&& (7 : Int32)) - ((((u0.toUInt32 >>> ((17 : Int32) &&& 31).toUInt32).toInt32) &&& (7 : Int32)) / (5 : Int32)) * (5 : Int32))), .val (.int ((((u0.toUInt32 >>> ((14 : Int32) &&& 31).toUInt32).toInt32) &&& (7 : Int32)) - ((((u0.toUInt32 >>> ((14 : Int32) &&& 31).toUInt32).toInt32) &&& (7 : Int32)) / (5 : Int32)) * (5 : Int32))), .val (.ref b81), .val (.ref b92), .unset, .unset, .unset, .unset, .unset, .unset] [(.long (own_vf u2 2)), (.int (2 : Int32)), (.ref b92)])) rfl rfl (hb hby at_126)
  refine own_st st98 ?_
  have V98 := Arv.set Ar98 Kd98 Sz98 Nn98 Hs98 Gs98 rfl W98 2 rfl (Nat.le_of_ble_eq_true rfl)
  have V98' : Arv Z h98 b92 k92 .long (4 : Int32) [(.long (own_vf u2 0)), (.long (own_vf u2 1)), (.long (own_vf u2 2)), (.long (0 : Int64))] (.long (0 : Int64)) := V98
  have y98_V_b81 := y96_V_b81.other W98 neb81_b92
  have Z98 : n0 ≤ h98.size := Nat.le_trans Z96 (Nat.le_of_eq W98.size.symm)
  have N98 := Fr.snoc X98 N97 gnb92
  have K98 : Keep h0 h98 [] := K96.wr W98 (Or.inr gkb92)
  refine own_st (fun _ k => XS.aload X98.here hx rfl (hb hby at_127) rfl rfl k) ?_
  refine own_st (fun _ k => XS.iconst X98.here hx rfl (hb hby at_129) k) ?_
  refine own_st (fun _ k => XS.lloadN X98.here hx rfl (hb hby at_130) rfl k) ?_
  refine own_st (fun _ k => XS.iconst X98.here hx rfl (hb hby at_131) k) ?_
  show own_Go _ _ _ _ (T98.setTop (mkF m 132 #[.val (.int u0), .val (.long u1), .second, .val (.long u2), .second, .val (.long (own_inv (-7046029254386353131 : Int64))), .second, .val (.int ((((u0.toUInt32 >>> ((17 : Int32) &&& 31).toUInt32).toInt32) &&& (7 : Int32)) - ((((u0.toUInt32 >>> ((17 : Int32) &&& 31).toUInt32).toInt32) &&& (7 : Int32)) / (5 : Int32)) * (5 : Int32))), .val (.int ((((u0.toUInt32 >>> ((14 : Int32) &&& 31).toUInt32).toInt32) &&& (7 : Int32)) - ((((u0.toUInt32 >>> ((14 : Int32) &&& 31).toUInt32).toInt32) &&& (7 : Int32)) / (5 : Int32)) * (5 : Int32))), .val (.ref b81), .val (.ref b92), .unset, .unset, .unset, .unset, .unset, .unset] [(.int (3 : Int32)), (.long u2), (.int (3 : Int32)), (.ref b92)]))
  obtain ⟨_, _, ⟨T99, L99, k99, n99⟩, -, X99, ⟨Lc99, hQ99, l99, y99, z99⟩, st99⟩ := Jvm.LawKit.callS X98 hx (y := (⟨"quillvax/store/LongMapRemovePinLaw", "value", "(JI)J"⟩ : MethodName)) hown (mvT hZ (hw _ (List.mem_of_getElem? (i := 11) rfl))) (mvT hZ (hw _ (List.mem_of_getElem? (i := 12) rfl))) (mvT hZ (hw _ (List.mem_of_getElem? (i := 3) rfl))) (mvT hZ (hw _ (List.mem_of_getElem? (i := 13) rfl))) (by decide) (backOf (W := 2) (rm3 l Z a0 hw [] u2 (3 : Int32) h98 n0 Z98 ) hZ (hw _ (List.mem_of_getElem? (i := 13) rfl)) (hw _ (List.mem_of_getElem? (i := 3) rfl)) (by decide) (by decide)) (g := (mkF m 132 #[.val (.int u0), .val (.long u1), .second, .val (.long u2), .second, .val (.long (own_inv (-7046029254386353131 : Int64))), .second, .val (.int ((((u0.toUInt32 >>> ((17 : Int32) &&& 31).toUInt32).toInt32) &&& (7 : Int32)) - ((((u0.toUInt32 >>> ((17 : Int32) &&& 31).toUInt32).toInt32) &&& (7 : Int32)) / (5 : Int32)) * (5 : Int32))), .val (.int ((((u0.toUInt32 >>> ((14 : Int32) &&& 31).toUInt32).toInt32) &&& (7 : Int32)) - ((((u0.toUInt32 >>> ((14 : Int32) &&& 31).toUInt32).toInt32) &&& (7 : Int32)) / (5 : Int32)) * (5 : Int32))), .val (.ref b81), .val (.ref b92), .unset, .unset, .unset, .unset, .unset, .unset] [(.int (3 : Int32)), (.long u2), (.int (3 : Int32)), (.ref b92)])) rfl (by rw [hml]; rfl) (argsL := [(.long u2), (.int (3 : Int32))]) (rest := [(.int (3 : Int32)), (.ref b92)]) (lenOf own_pd2 rfl) rfl (by show 2 * 0 + _ ≤ _; exact Nat.le_of_eq rfl) (hb hby at_132) (fun _ _ => ⟨rfl, e98, (by decide : 2 + 0 ≤ _), (by decide : 9 + 0 ≤ _)⟩)
  dsimp only [Pt.U, Pt.locs, Pt.cells, Pt.slots] at X99 l99 y99 z99 st99 hQ99
  rw [l99, y99, z99] at X99
  obtain ⟨rfl, Nq99, eq99⟩ := hQ99
  have N99 := Fr.app N98 Nq99
  refine own_st st99 ?_
  show own_Go _ _ _ _ (T99.setTop (mkF m 135 #[.val (.int u0), .val (.long u1), .second, .val (.long u2), .second, .val (.long (own_inv (-7046029254386353131 : Int64))), .second, .val (.int ((((u0.toUInt32 >>> ((17 : Int32) &&& 31).toUInt32).toInt32) &&& (7 : Int32)) - ((((u0.toUInt32 >>> ((17 : Int32) &&& 31).toUInt32).toInt32) &&& (7 : Int32)) / (5 : Int32)) * (5 : Int32))), .val (.int ((((u0.toUInt32 >>> ((14 : Int32) &&& 31).toUInt32).toInt32) &&& (7 : Int32)) - ((((u0.toUInt32 >>> ((14 : Int32) &&& 31).toUInt32).toInt32) &&& (7 : Int32)) / (5 : Int32)) * (5 : Int32))), .val (.ref b81), .val (.ref b92), .unset, .unset, .unset, .unset, .unset, .unset] [(.long (own_vf u2 3)), (.int (3 : Int32)), (.ref b92)]))
  obtain ⟨cl100, Ar100, Kd100, Sz100, Nn100, Hs100, Gs100⟩ := id V98'
  obtain ⟨T100, h100, X100, e100, W100, st100⟩ := stJ X99 hx hZ eq99 Ar100 (j := (3 : Int32)) (inb_of Sz100 ⟨(by decide : ¬ ((3 : Int32) < (0 : Int32))), (by decide : (3 : Int32) < (4 : Int32))⟩) (g := (mkF m 135 #[.val (.int u0), .val (.long u1), .second, .val (.long u2), .second, .val (.long (own_inv (-7046029254386353131 : Int64))), .second, .val (.int ((((u0.toUInt32 >>> ((17 : Int32) &&& 31).toUInt32).toInt32) &&& (7 : Int32)) - ((((u0.toUInt32 >>> ((17 : Int32) &&& 31).toUInt32).toInt32) &&& (7 : Int32)) / (5 : Int32)) * (5 : Int32))), .val (.int ((((u0.toUInt32 >>> ((14 : Int32) &&& 31).toUInt32).toInt32) &&& (7 : Int32)) - ((((u0.toUInt32 >>> ((14 : Int32) &&& 31).toUInt32).toInt32) &&& (7 : Int32)) / (5 : Int32)) * (5 : Int32))), .val (.ref b81), .val (.ref b92), .unset, .unset, .unset, .unset, .unset, .unset] [(.long (own_vf u2 3)), (.int (3 : Int32)), (.ref b92)])) rfl rfl (hb hby at_135)
  refine own_st st100 ?_
  have V100 := Arv.set Ar100 Kd100 Sz100 Nn100 Hs100 Gs100 rfl W100 3 rfl (Nat.le_of_ble_eq_true rfl)
  have V100' : Arv Z h100 b92 k92 .long (4 : Int32) [(.long (own_vf u2 0)), (.long (own_vf u2 1)), (.long (own_vf u2 2)), (.long (own_vf u2 3))] (.long (0 : Int64)) := V100
  have y100_V_b81 := y98_V_b81.other W100 neb81_b92
  have Z100 : n0 ≤ h100.size := Nat.le_trans Z98 (Nat.le_of_eq W100.size.symm)
  have N100 := Fr.snoc X100 N99 gnb92
  have K100 : Keep h0 h100 [] := K98.wr W100 (Or.inr gkb92)
  show own_Go _ _ _ _ (T100.setTop (mkF m 136 #[.val (.int u0), .val (.long u1), .second, .val (.long u2), .second, .val (.long (own_inv (-7046029254386353131 : Int64))), .second, .val (.int ((((u0.toUInt32 >>> ((17 : Int32) &&& 31).toUInt32).toInt32) &&& (7 : Int32)) - ((((u0.toUInt32 >>> ((17 : Int32) &&& 31).toUInt32).toInt32) &&& (7 : Int32)) / (5 : Int32)) * (5 : Int32))), .val (.int ((((u0.toUInt32 >>> ((14 : Int32) &&& 31).toUInt32).toInt32) &&& (7 : Int32)) - ((((u0.toUInt32 >>> ((14 : Int32) &&& 31).toUInt32).toInt32) &&& (7 : Int32)) / (5 : Int32)) * (5 : Int32))), .val (.ref b81), .val (.ref b92), .unset, .unset, .unset, .unset, .unset, .unset] []))
  obtain ⟨T101, h101, X101, e101, E101, A101, D101, -, st101⟩ := newO X100 hx hZ hown (hw _ (List.mem_of_getElem? (i := 14) rfl)) (hw _ (List.mem_of_getElem? (i := 15) rfl)) (hw _ (List.mem_of_getElem? (i := 16) rfl)) e100 (g := (mkF m 136 #[.val (.int u0), .val (.long u1), .second, .val (.long u2), .second, .val (.long (own_inv (-7046029254386353131 : Int64))), .second, .val (.int ((((u0.toUInt32 >>> ((17 : Int32) &&& 31).toUInt32).toInt32) &&& (7 : Int32)) - ((((u0.toUInt32 >>> ((17 : Int32) &&& 31).toUInt32).toInt32) &&& (7 : Int32)) / (5 : Int32)) * (5 : Int32))), .val (.int ((((u0.toUInt32 >>> ((14 : Int32) &&& 31).toUInt32).toInt32) &&& (7 : Int32)) - ((((u0.toUInt32 >>> ((14 : Int32) &&& 31).toUInt32).toInt32) &&& (7 : Int32)) / (5 : Int32)) * (5 : Int32))), .val (.ref b81), .val (.ref b92), .unset, .unset, .unset, .unset, .unset, .unset] [])) rfl (hb hby at_136) (by decide) (by decide)
  obtain ⟨b101, g101⟩ : ∃ z, z = h100.size := ⟨_, rfl⟩
  rw [← g101] at A101 D101 st101
  refine own_st st101 ?_
  have neb81_b101 : b81 ≠ b101 := Nat.ne_of_lt (Nat.lt_of_lt_of_le y100_V_b81.lt (Nat.le_of_eq g101.symm))
  have neb92_b101 : b92 ≠ b101 := Nat.ne_of_lt (Nat.lt_of_lt_of_le V100'.lt (Nat.le_of_eq g101.symm))
  have x101_V_b81 := y100_V_b81.ext E101
  have x101_V_b92 := V100'.ext E101
  have Z101 : n0 ≤ h101.size := Nat.le_trans Z100 E101.1
  have gnb101 : n0 ≤ b101 := Nat.le_trans Z100 (Nat.le_of_eq g101.symm)
  have gkb101 : h0.size ≤ b101 := Nat.le_trans K100.1 (Nat.le_of_eq g101.symm)
  have K101 : Keep h0 h101 [] := K100.ext E101
  have F101_keys : Fld Z h101 b101 "quillvax/store/LongMap" "keys" "[J" .null := D101 (Or.inl (hw _ (List.mem_of_getElem? (i := 24) rfl))) (ty := (.array .long)) (by decide)
  have F101_values : Fld Z h101 b101 "quillvax/store/LongMap" "values" "[J" .null := D101 (Or.inl (hw _ (List.mem_of_getElem? (i := 26) rfl))) (ty := (.array .long)) (by decide)
  have F101_slotBits : Fld Z h101 b101 "quillvax/store/LongMap" "slotBits" "I" (.int (0 : Int32)) := D101 (Or.inl (hw _ (List.mem_of_getElem? (i := 33) rfl))) (ty := .int) (by decide)
  have F101_size : Fld Z h101 b101 "quillvax/store/LongMap" "size" "I" (.int (0 : Int32)) := D101 (Or.inl (hw _ (List.mem_of_getElem? (i := 66) rfl))) (ty := .int) (by decide)
  refine own_st (fun _ k => XS.dup X101.here hx rfl (hb hby at_139) rfl rfl k) ?_
  show own_Go _ _ _ _ (T101.setTop (mkF m 140 #[.val (.int u0), .val (.long u1), .second, .val (.long u2), .second, .val (.long (own_inv (-7046029254386353131 : Int64))), .second, .val (.int ((((u0.toUInt32 >>> ((17 : Int32) &&& 31).toUInt32).toInt32) &&& (7 : Int32)) - ((((u0.toUInt32 >>> ((17 : Int32) &&& 31).toUInt32).toInt32) &&& (7 : Int32)) / (5 : Int32)) * (5 : Int32))), .val (.int ((((u0.toUInt32 >>> ((14 : Int32) &&& 31).toUInt32).toInt32) &&& (7 : Int32)) - ((((u0.toUInt32 >>> ((14 : Int32) &&& 31).toUInt32).toInt32) &&& (7 : Int32)) / (5 : Int32)) * (5 : Int32))), .val (.ref b81), .val (.ref b92), .unset, .unset, .unset, .unset, .unset, .unset] [(.ref b101), (.ref b101)]))
  obtain ⟨_, _, ⟨T102, L102, k102, n102⟩, -, X102, ⟨Lc102, hQ102, l102, y102, z102⟩, st102⟩ := X101.specialBack hx (y := (⟨"quillvax/store/LongMap", "<init>", "()V"⟩ : MethodName)) rfl hown (mvT hZ (hw _ (List.mem_of_getElem? (i := 17) rfl))) (mvT hZ (hw _ (List.mem_of_getElem? (i := 18) rfl))) (mvT hZ (hw _ (List.mem_of_getElem? (i := 19) rfl))) (by decide) (backOf (W := 1) (rm4 l Z a0 hw [] b101 .null .null (.int (0 : Int32)) (.int (0 : Int32)) h101 n0 Z101 A101 gnb101 F101_keys F101_values F101_slotBits F101_size) hZ (hw _ (List.mem_of_getElem? (i := 19) rfl)) (hw _ (List.mem_of_getElem? (i := 16) rfl)) (by decide) (by decide)) (g := (mkF m 140 #[.val (.int u0), .val (.long u1), .second, .val (.long u2), .second, .val (.long (own_inv (-7046029254386353131 : Int64))), .second, .val (.int ((((u0.toUInt32 >>> ((17 : Int32) &&& 31).toUInt32).toInt32) &&& (7 : Int32)) - ((((u0.toUInt32 >>> ((17 : Int32) &&& 31).toUInt32).toInt32) &&& (7 : Int32)) / (5 : Int32)) * (5 : Int32))), .val (.int ((((u0.toUInt32 >>> ((14 : Int32) &&& 31).toUInt32).toInt32) &&& (7 : Int32)) - ((((u0.toUInt32 >>> ((14 : Int32) &&& 31).toUInt32).toInt32) &&& (7 : Int32)) / (5 : Int32)) * (5 : Int32))), .val (.ref b81), .val (.ref b92), .unset, .unset, .unset, .unset, .unset, .unset] [(.ref b101), (.ref b101)])) rfl (by rw [hml]; rfl) (Steps.refl _) (a := b101) (argsL := []) (rest := [(.ref b101)]) (lenOf own_pd4 rfl) rfl (by show 2 * 0 + _ ≤ _; exact Nat.le_of_eq rfl) (hb hby at_140) (fun _ _ => ⟨rfl, e101, (by decide : 3 + 2 ≤ _), (by decide : 13 + 32 ≤ _)⟩)
  dsimp only [Pt.U, Pt.locs, Pt.cells, Pt.slots] at X102 l102 y102 z102 st102 hQ102
  rw [l102, y102, z102] at X102
  obtain ⟨ka102, wa102, kk102, kw102, rfl, Nq102, Kq102, Eq102, Fq102_keys, Fq102_values, Fq102_slotBits, Fq102_size, Vk102, Vw102, ga102, gb102, nk102⟩ := hQ102
  have N102 := Fr.app N100 Nq102
  refine own_tr st102 ?_
  have neb101_ka102 : b101 ≠ ka102 := Nat.ne_of_lt (Nat.lt_of_lt_of_le A101.lt ga102)
  have neb81_ka102 : b81 ≠ ka102 := Nat.ne_of_lt (Nat.lt_of_lt_of_le x101_V_b81.lt ga102)
  have neb92_ka102 : b92 ≠ ka102 := Nat.ne_of_lt (Nat.lt_of_lt_of_le x101_V_b92.lt ga102)
  have gnka102 : n0 ≤ ka102 := Nat.le_trans Z101 ga102
  have gkka102 : h0.size ≤ ka102 := Nat.le_trans K101.1 ga102
  have neb101_wa102 : b101 ≠ wa102 := Nat.ne_of_lt (Nat.lt_of_lt_of_le A101.lt gb102)
  have neb81_wa102 : b81 ≠ wa102 := Nat.ne_of_lt (Nat.lt_of_lt_of_le x101_V_b81.lt gb102)
  have neb92_wa102 : b92 ≠ wa102 := Nat.ne_of_lt (Nat.lt_of_lt_of_le x101_V_b92.lt gb102)
  have gnwa102 : n0 ≤ wa102 := Nat.le_trans Z101 gb102
  have gkwa102 : h0.size ≤ wa102 := Nat.le_trans K101.1 gb102
  have z102_V_b81 := x101_V_b81.keep Kq102 (ninS neb81_b101 nin0)
  have z102_V_b92 := x101_V_b92.keep Kq102 (ninS neb92_b101 nin0)
  have z102_E_b101 := A101.keep Kq102
  have Z102 : n0 ≤ T102.heap.size := Nat.le_trans Z101 Kq102.1
  have Kk102 : Keep h0 T102.heap [] := K101.trans Kq102 (allS (Or.inr gkb101) all0)
  refine own_st (fun _ k => XS.astore X102.here hx rfl (hb hby at_143) rfl rfl (l' := #[.val (.int u0), .val (.long u1), .second, .val (.long u2), .second, .val (.long (own_inv (-7046029254386353131 : Int64))), .second, .val (.int ((((u0.toUInt32 >>> ((17 : Int32) &&& 31).toUInt32).toInt32) &&& (7 : Int32)) - ((((u0.toUInt32 >>> ((17 : Int32) &&& 31).toUInt32).toInt32) &&& (7 : Int32)) / (5 : Int32)) * (5 : Int32))), .val (.int ((((u0.toUInt32 >>> ((14 : Int32) &&& 31).toUInt32).toInt32) &&& (7 : Int32)) - ((((u0.toUInt32 >>> ((14 : Int32) &&& 31).toUInt32).toInt32) &&& (7 : Int32)) / (5 : Int32)) * (5 : Int32))), .val (.ref b81), .val (.ref b92), .val (.ref b101), .unset, .unset, .unset, .unset, .unset]) rfl k) ?_
  show own_Go _ _ _ _ (T102.setTop (mkF m 145 #[.val (.int u0), .val (.long u1), .second, .val (.long u2), .second, .val (.long (own_inv (-7046029254386353131 : Int64))), .second, .val (.int ((((u0.toUInt32 >>> ((17 : Int32) &&& 31).toUInt32).toInt32) &&& (7 : Int32)) - ((((u0.toUInt32 >>> ((17 : Int32) &&& 31).toUInt32).toInt32) &&& (7 : Int32)) / (5 : Int32)) * (5 : Int32))), .val (.int ((((u0.toUInt32 >>> ((14 : Int32) &&& 31).toUInt32).toInt32) &&& (7 : Int32)) - ((((u0.toUInt32 >>> ((14 : Int32) &&& 31).toUInt32).toInt32) &&& (7 : Int32)) / (5 : Int32)) * (5 : Int32))), .val (.ref b81), .val (.ref b92), .val (.ref b101), .unset, .unset, .unset, .unset, .unset] []))
  have TAIL : ∀ (nI tI : Int32) (x12 x14 : Int64) (KR WR : Nat → Int64) (g0 g1 g2 g3 : Nat) (P : State → Outcome → Prop) (TL : State) (hL : Heap) (lcs : List Loc), Stand p l e room_1 s m #[(.int u0), (.long u1), (.long u2)] below meth c TL lcs 5 45 → TL.heap = hL → Arv Z hL ka102 kk102 .long (16 : Int32) (own_vs KR) (.long (0 : Int64)) → Arv Z hL wa102 kw102 .long (16 : Int32) (own_vs WR) (.long (0 : Int64)) → Exa Z hL b101 "quillvax/store/LongMap" → Fld Z hL b101 "quillvax/store/LongMap" "keys" "[J" (.ref ka102) → Fld Z hL b101 "quillvax/store/LongMap" "values" "[J" (.ref wa102) → Fld Z hL b101 "quillvax/store/LongMap" "slotBits" "I" (.int (4 : Int32)) → Arv Z hL b81 k81 .long (5 : Int32) [(.long (own_kf u0 u1 0)), (.long (own_kf u0 u1 1)), (.long (own_kf u0 u1 2)), (.long (own_kf u0 u1 3)), (.long (own_kf u0 u1 4))] (.long (0 : Int64)) → Arv Z hL b92 k92 .long (4 : Int32) [(.long (own_vf u2 0)), (.long (own_vf u2 1)), (.long (own_vf u2 2)), (.long (own_vf u2 3))] (.long (0 : Int64)) → Fr n0 lcs → n0 ≤ hL.size → own_find KR WR (own_kf u0 u1 0) 16 (own_home (own_kf u0 u1 0)) = some g0 → WR g0 = (if (0 : Int32) < nI then (if tI = (0 : Int32) then (0 : Int64) else (own_vf u2 0)) else (0 : Int64)) → own_find KR WR (own_kf u0 u1 1) 16 (own_home (own_kf u0 u1 1)) = some g1 → WR g1 = (if (1 : Int32) < nI then (if tI = (1 : Int32) then (0 : Int64) else (own_vf u2 1)) else (0 : Int64)) → own_find KR WR (own_kf u0 u1 2) 16 (own_home (own_kf u0 u1 2)) = some g2 → WR g2 = (if (2 : Int32) < nI then (if tI = (2 : Int32) then (0 : Int64) else (own_vf u2 2)) else (0 : Int64)) → own_find KR WR (own_kf u0 u1 3) 16 (own_home (own_kf u0 u1 3)) = some g3 → WR g3 = (if (3 : Int32) < nI then (if tI = (3 : Int32) then (0 : Int64) else (own_vf u2 3)) else (0 : Int64)) → (∀ (TM : State) (lcM : List Loc), Stand p l e room_1 s m #[(.int u0), (.long u1), (.long u2)] below meth c TM lcM 5 45 → Fr n0 lcM → own_Go p.tables e below P (TM.setTop (mkF m 446 #[.val (.int u0), .val (.long u1), .second, .val (.long u2), .second, .val (.long (own_inv (-7046029254386353131 : Int64))), .second, .val (.int nI), .val (.int tI), .val (.ref b81), .val (.ref b92), .val (.ref b101), .val (.long x12), .second, .val (.long x14), .second, .val (.int (1 : Int32))] [(.int (1 : Int32))]))) → own_Go p.tables e below P (TL.setTop (mkF m 265 #[.val (.int u0), .val (.long u1), .second, .val (.long u2), .second, .val (.long (own_inv (-7046029254386353131 : Int64))), .second, .val (.int nI), .val (.int tI), .val (.ref b81), .val (.ref b92), .val (.ref b101), .val (.long x12), .second, .val (.long x14), .second, .val (.int (1 : Int32))] [])) := by
    intro nI tI x12 x14 KR WR g0 g1 g2 g3 P TL hL lcs XL eL VkL VwL EL FkL FvL FsL VaL VbL NL ZL gf0 gv0 gf1 gv1 gf2 gv2 gf3 gv3 hG
    show own_Go _ _ _ _ (TL.setTop (mkF m 265 #[.val (.int u0), .val (.long u1), .second, .val (.long u2), .second, .val (.long (own_inv (-7046029254386353131 : Int64))), .second, .val (.int nI), .val (.int tI), .val (.ref b81), .val (.ref b92), .val (.ref b101), .val (.long x12), .second, .val (.long x14), .second, .val (.int (1 : Int32))] []))
    refine own_st (fun _ k => XS.iload XL.here hx rfl (hb hby at_265) rfl k) ?_
    show own_Go _ _ _ _ (TL.setTop (mkF m 267 #[.val (.int u0), .val (.long u1), .second, .val (.long u2), .second, .val (.long (own_inv (-7046029254386353131 : Int64))), .second, .val (.int nI), .val (.int tI), .val (.ref b81), .val (.ref b92), .val (.ref b101), .val (.long x12), .second, .val (.long x14), .second, .val (.int (1 : Int32))] [(.int (1 : Int32))]))
    refine own_st (fun _ k => XS.ifNo XL.here hx rfl (hb hby at_267) rfl ((if0 _ _).trans (feq (by decide : ¬ ((1 : Int32) = (0 : Int32)))).1) k) ?_
    refine own_st (fun _ k => XS.aload XL.here hx rfl (hb hby at_270) rfl rfl k) ?_
    refine own_st (fun _ k => XS.aload XL.here hx rfl (hb hby at_272) rfl rfl k) ?_
    refine own_st (fun _ k => XS.iconst XL.here hx rfl (hb hby at_274) k) ?_
    show own_Go _ _ _ _ (TL.setTop (mkF m 275 #[.val (.int u0), .val (.long u1), .second, .val (.long u2), .second, .val (.long (own_inv (-7046029254386353131 : Int64))), .second, .val (.int nI), .val (.int tI), .val (.ref b81), .val (.ref b92), .val (.ref b101), .val (.long x12), .second, .val (.long x14), .second, .val (.int (1 : Int32))] [(.int (0 : Int32)), (.ref b81), (.ref b101)]))
    obtain ⟨cl103, Ar103, -, Sz103, Nn103, Hs103, -⟩ := id VaL
    have hin103 : ¬ ((0 : Int32) < 0 ∨ cl103.slots.size ≤ ((0 : Int32)).toNatClampNeg) := inb_of Sz103 ⟨(by decide : ¬ ((0 : Int32) < (0 : Int32))), (by decide : (0 : Int32) < (5 : Int32))⟩
    have hat103 : cl103.slots[((0 : Int32)).toNatClampNeg]? = some (.long (own_kf u0 u1 0)) := Hs103.at hin103 rfl
    refine own_st (XL.laload hx (j := (0 : Int32)) (v := (.long (own_kf u0 u1 0))) (by rw [eL]; exact Ar103.1) (State.isArrayOf_alike hZ.alike Ar103.2.1) Ar103.2.2 hin103 hat103 (g := (mkF m 275 #[.val (.int u0), .val (.long u1), .second, .val (.long u2), .second, .val (.long (own_inv (-7046029254386353131 : Int64))), .second, .val (.int nI), .val (.int tI), .val (.ref b81), .val (.ref b92), .val (.ref b101), .val (.long x12), .second, .val (.long x14), .second, .val (.int (1 : Int32))] [(.int (0 : Int32)), (.ref b81), (.ref b101)])) rfl rfl (hb hby at_275)) ?_
    show own_Go _ _ _ _ (TL.setTop (mkF m 276 #[.val (.int u0), .val (.long u1), .second, .val (.long u2), .second, .val (.long (own_inv (-7046029254386353131 : Int64))), .second, .val (.int nI), .val (.int tI), .val (.ref b81), .val (.ref b92), .val (.ref b101), .val (.long x12), .second, .val (.long x14), .second, .val (.int (1 : Int32))] [(.long (own_kf u0 u1 0)), (.ref b101)]))
    obtain ⟨cq104, kq104, q104a, q104b, q104c⟩ := isOf hZ eL EL
    obtain ⟨_, _, ⟨T104, L104, k104, n104⟩, -, X104, ⟨Lc104, hQ104, l104, y104, z104⟩, st104⟩ := XL.virtualBack hx (y := (⟨"quillvax/store/LongMap", "get", "(J)J"⟩ : MethodName)) (z := (⟨"quillvax/store/LongMap", "get", "(J)J"⟩ : MethodName)) hown (mvT hZ (hw _ (List.mem_of_getElem? (i := 48) rfl))) (mvT hZ (hw _ (List.mem_of_getElem? (i := 49) rfl))) (notFace_of_selects (args := #[]) (mvT hZ (hw _ (List.mem_of_getElem? (i := 51) rfl)))) (mvT hZ (hw _ (List.mem_of_getElem? (i := 51) rfl))) (mvT hZ (hw _ (List.mem_of_getElem? (i := 50) rfl))) (by decide) (backOf (W := 0) (rm10 l Z a0 hw [] b101 ka102 wa102 kk102 kw102 KR WR (own_kf u0 u1 0) g0 hL n0 ZL EL FkL FvL FsL VkL VwL gf0) hZ (hw _ (List.mem_of_getElem? (i := 52) rfl)) (hw _ (List.mem_of_getElem? (i := 16) rfl)) (by decide) (by decide)) q104a q104c (g := (mkF m 276 #[.val (.int u0), .val (.long u1), .second, .val (.long u2), .second, .val (.long (own_inv (-7046029254386353131 : Int64))), .second, .val (.int nI), .val (.int tI), .val (.ref b81), .val (.ref b92), .val (.ref b101), .val (.long x12), .second, .val (.long x14), .second, .val (.int (1 : Int32))] [(.long (own_kf u0 u1 0)), (.ref b101)])) rfl (by rw [hml]; rfl) (Steps.refl _) (argsL := [(.long (own_kf u0 u1 0))]) (rest := []) (lenOf own_pd0 rfl) rfl (by show 2 * 0 + _ ≤ _; exact Nat.le_of_eq rfl) (hb hby at_276) (fun _ _ => ⟨rfl, eL, (by decide : 5 + 0 ≤ _), (by decide : 45 + 0 ≤ _)⟩)
    dsimp only [Pt.U, Pt.locs, Pt.cells, Pt.slots] at X104 l104 y104 z104 st104 hQ104
    rw [l104, y104, z104] at X104
    obtain ⟨rfl, Nq104, eq104⟩ := hQ104
    have N104 := Fr.app NL Nq104
    refine own_tr st104 ?_
    show own_Go _ _ _ _ (T104.setTop (mkF m 279 #[.val (.int u0), .val (.long u1), .second, .val (.long u2), .second, .val (.long (own_inv (-7046029254386353131 : Int64))), .second, .val (.int nI), .val (.int tI), .val (.ref b81), .val (.ref b92), .val (.ref b101), .val (.long x12), .second, .val (.long x14), .second, .val (.int (1 : Int32))] [(.long (WR g0))]))
    refine own_join (fun y0 : Int64 => T104.setTop (mkF m 298 #[.val (.int u0), .val (.long u1), .second, .val (.long u2), .second, .val (.long (own_inv (-7046029254386353131 : Int64))), .second, .val (.int nI), .val (.int tI), .val (.ref b81), .val (.ref b92), .val (.ref b101), .val (.long x12), .second, .val (.long x14), .second, .val (.int (1 : Int32))] [(.long y0), (.long (WR g0))])) (fun y0 => y0 = (if (0 : Int32) < nI then (if tI = (0 : Int32) then (0 : Int64) else (own_vf u2 0)) else (0 : Int64))) ?_ ?_
    · intro y0 hj105
      show own_Go _ _ _ _ (T104.setTop (mkF m 298 #[.val (.int u0), .val (.long u1), .second, .val (.long u2), .second, .val (.long (own_inv (-7046029254386353131 : Int64))), .second, .val (.int nI), .val (.int tI), .val (.ref b81), .val (.ref b92), .val (.ref b101), .val (.long x12), .second, .val (.long x14), .second, .val (.int (1 : Int32))] [(.long y0), (.long (WR g0))]))
      refine own_st (fun _ k => XS.lcmp X104.here hx rfl (hb hby at_298) rfl k) ?_
      show own_Go _ _ _ _ (T104.setTop (mkF m 299 #[.val (.int u0), .val (.long u1), .second, .val (.long u2), .second, .val (.long (own_inv (-7046029254386353131 : Int64))), .second, .val (.int nI), .val (.int tI), .val (.ref b81), .val (.ref b92), .val (.ref b101), .val (.long x12), .second, .val (.long x14), .second, .val (.int (1 : Int32))] [(.int (lcmpW (WR g0) y0))]))
      refine own_st (fun _ k => XS.ifNo X104.here hx rfl (hb hby at_299) rfl ((if0 _ _).trans (teq ((lw_eq _ _).mpr (gv0.trans hj105.symm))).2) k) ?_
      refine own_st (fun _ k => XS.iconst X104.here hx rfl (hb hby at_302) k) ?_
      refine own_st (fun _ k => XS.goto X104.here hx rfl (pc0 := 303) (pc' := 307) rfl (hb hby at_303) (by decide) (by decide) k) ?_
      refine own_st (fun _ k => XS.istore X104.here hx rfl (hb hby at_307) rfl (l' := #[.val (.int u0), .val (.long u1), .second, .val (.long u2), .second, .val (.long (own_inv (-7046029254386353131 : Int64))), .second, .val (.int nI), .val (.int tI), .val (.ref b81), .val (.ref b92), .val (.ref b101), .val (.long x12), .second, .val (.long x14), .second, .val (.int (1 : Int32))]) rfl k) ?_
      refine own_st (fun _ k => XS.iload X104.here hx rfl (hb hby at_309) rfl k) ?_
      show own_Go _ _ _ _ (T104.setTop (mkF m 311 #[.val (.int u0), .val (.long u1), .second, .val (.long u2), .second, .val (.long (own_inv (-7046029254386353131 : Int64))), .second, .val (.int nI), .val (.int tI), .val (.ref b81), .val (.ref b92), .val (.ref b101), .val (.long x12), .second, .val (.long x14), .second, .val (.int (1 : Int32))] [(.int (1 : Int32))]))
      refine own_st (fun _ k => XS.ifNo X104.here hx rfl (hb hby at_311) rfl ((if0 _ _).trans (feq (by decide : ¬ ((1 : Int32) = (0 : Int32)))).1) k) ?_
      refine own_st (fun _ k => XS.aload X104.here hx rfl (hb hby at_314) rfl rfl k) ?_
      refine own_st (fun _ k => XS.aload X104.here hx rfl (hb hby at_316) rfl rfl k) ?_
      refine own_st (fun _ k => XS.iconst X104.here hx rfl (hb hby at_318) k) ?_
      show own_Go _ _ _ _ (T104.setTop (mkF m 319 #[.val (.int u0), .val (.long u1), .second, .val (.long u2), .second, .val (.long (own_inv (-7046029254386353131 : Int64))), .second, .val (.int nI), .val (.int tI), .val (.ref b81), .val (.ref b92), .val (.ref b101), .val (.long x12), .second, .val (.long x14), .second, .val (.int (1 : Int32))] [(.int (1 : Int32)), (.ref b81), (.ref b101)]))
      obtain ⟨cl106, Ar106, -, Sz106, Nn106, Hs106, -⟩ := id VaL
      have hin106 : ¬ ((1 : Int32) < 0 ∨ cl106.slots.size ≤ ((1 : Int32)).toNatClampNeg) := inb_of Sz106 ⟨(by decide : ¬ ((1 : Int32) < (0 : Int32))), (by decide : (1 : Int32) < (5 : Int32))⟩
      have hat106 : cl106.slots[((1 : Int32)).toNatClampNeg]? = some (.long (own_kf u0 u1 1)) := Hs106.at hin106 rfl
      refine own_st (X104.laload hx (j := (1 : Int32)) (v := (.long (own_kf u0 u1 1))) (by rw [eq104]; exact Ar106.1) (State.isArrayOf_alike hZ.alike Ar106.2.1) Ar106.2.2 hin106 hat106 (g := (mkF m 319 #[.val (.int u0), .val (.long u1), .second, .val (.long u2), .second, .val (.long (own_inv (-7046029254386353131 : Int64))), .second, .val (.int nI), .val (.int tI), .val (.ref b81), .val (.ref b92), .val (.ref b101), .val (.long x12), .second, .val (.long x14), .second, .val (.int (1 : Int32))] [(.int (1 : Int32)), (.ref b81), (.ref b101)])) rfl rfl (hb hby at_319)) ?_
      show own_Go _ _ _ _ (T104.setTop (mkF m 320 #[.val (.int u0), .val (.long u1), .second, .val (.long u2), .second, .val (.long (own_inv (-7046029254386353131 : Int64))), .second, .val (.int nI), .val (.int tI), .val (.ref b81), .val (.ref b92), .val (.ref b101), .val (.long x12), .second, .val (.long x14), .second, .val (.int (1 : Int32))] [(.long (own_kf u0 u1 1)), (.ref b101)]))
      obtain ⟨cq107, kq107, q107a, q107b, q107c⟩ := isOf hZ eq104 EL
      obtain ⟨_, _, ⟨T107, L107, k107, n107⟩, -, X107, ⟨Lc107, hQ107, l107, y107, z107⟩, st107⟩ := X104.virtualBack hx (y := (⟨"quillvax/store/LongMap", "get", "(J)J"⟩ : MethodName)) (z := (⟨"quillvax/store/LongMap", "get", "(J)J"⟩ : MethodName)) hown (mvT hZ (hw _ (List.mem_of_getElem? (i := 48) rfl))) (mvT hZ (hw _ (List.mem_of_getElem? (i := 49) rfl))) (notFace_of_selects (args := #[]) (mvT hZ (hw _ (List.mem_of_getElem? (i := 51) rfl)))) (mvT hZ (hw _ (List.mem_of_getElem? (i := 51) rfl))) (mvT hZ (hw _ (List.mem_of_getElem? (i := 50) rfl))) (by decide) (backOf (W := 0) (rm10 l Z a0 hw [] b101 ka102 wa102 kk102 kw102 KR WR (own_kf u0 u1 1) g1 hL n0 ZL EL FkL FvL FsL VkL VwL gf1) hZ (hw _ (List.mem_of_getElem? (i := 52) rfl)) (hw _ (List.mem_of_getElem? (i := 16) rfl)) (by decide) (by decide)) q107a q107c (g := (mkF m 320 #[.val (.int u0), .val (.long u1), .second, .val (.long u2), .second, .val (.long (own_inv (-7046029254386353131 : Int64))), .second, .val (.int nI), .val (.int tI), .val (.ref b81), .val (.ref b92), .val (.ref b101), .val (.long x12), .second, .val (.long x14), .second, .val (.int (1 : Int32))] [(.long (own_kf u0 u1 1)), (.ref b101)])) rfl (by rw [hml]; rfl) (Steps.refl _) (argsL := [(.long (own_kf u0 u1 1))]) (rest := []) (lenOf own_pd0 rfl) rfl (by show 2 * 0 + _ ≤ _; exact Nat.le_of_eq rfl) (hb hby at_320) (fun _ _ => ⟨rfl, eq104, (by decide : 5 + 0 ≤ _), (by decide : 45 + 0 ≤ _)⟩)
      dsimp only [Pt.U, Pt.locs, Pt.cells, Pt.slots] at X107 l107 y107 z107 st107 hQ107
      rw [l107, y107, z107] at X107
      obtain ⟨rfl, Nq107, eq107⟩ := hQ107
      have N107 := Fr.app N104 Nq107
      refine own_tr st107 ?_
      show own_Go _ _ _ _ (T107.setTop (mkF m 323 #[.val (.int u0), .val (.long u1), .second, .val (.long u2), .second, .val (.long (own_inv (-7046029254386353131 : Int64))), .second, .val (.int nI), .val (.int tI), .val (.ref b81), .val (.ref b92), .val (.ref b101), .val (.long x12), .second, .val (.long x14), .second, .val (.int (1 : Int32))] [(.long (WR g1))]))
      refine own_join (fun y1 : Int64 => T107.setTop (mkF m 343 #[.val (.int u0), .val (.long u1), .second, .val (.long u2), .second, .val (.long (own_inv (-7046029254386353131 : Int64))), .second, .val (.int nI), .val (.int tI), .val (.ref b81), .val (.ref b92), .val (.ref b101), .val (.long x12), .second, .val (.long x14), .second, .val (.int (1 : Int32))] [(.long y1), (.long (WR g1))])) (fun y1 => y1 = (if (1 : Int32) < nI then (if tI = (1 : Int32) then (0 : Int64) else (own_vf u2 1)) else (0 : Int64))) ?_ ?_
      · intro y1 hj108
        show own_Go _ _ _ _ (T107.setTop (mkF m 343 #[.val (.int u0), .val (.long u1), .second, .val (.long u2), .second, .val (.long (own_inv (-7046029254386353131 : Int64))), .second, .val (.int nI), .val (.int tI), .val (.ref b81), .val (.ref b92), .val (.ref b101), .val (.long x12), .second, .val (.long x14), .second, .val (.int (1 : Int32))] [(.long y1), (.long (WR g1))]))
        refine own_st (fun _ k => XS.lcmp X107.here hx rfl (hb hby at_343) rfl k) ?_
        show own_Go _ _ _ _ (T107.setTop (mkF m 344 #[.val (.int u0), .val (.long u1), .second, .val (.long u2), .second, .val (.long (own_inv (-7046029254386353131 : Int64))), .second, .val (.int nI), .val (.int tI), .val (.ref b81), .val (.ref b92), .val (.ref b101), .val (.long x12), .second, .val (.long x14), .second, .val (.int (1 : Int32))] [(.int (lcmpW (WR g1) y1))]))
        refine own_st (fun _ k => XS.ifNo X107.here hx rfl (hb hby at_344) rfl ((if0 _ _).trans (teq ((lw_eq _ _).mpr (gv1.trans hj108.symm))).2) k) ?_
        refine own_st (fun _ k => XS.iconst X107.here hx rfl (hb hby at_347) k) ?_
        refine own_st (fun _ k => XS.goto X107.here hx rfl (pc0 := 348) (pc' := 352) rfl (hb hby at_348) (by decide) (by decide) k) ?_
        refine own_st (fun _ k => XS.istore X107.here hx rfl (hb hby at_352) rfl (l' := #[.val (.int u0), .val (.long u1), .second, .val (.long u2), .second, .val (.long (own_inv (-7046029254386353131 : Int64))), .second, .val (.int nI), .val (.int tI), .val (.ref b81), .val (.ref b92), .val (.ref b101), .val (.long x12), .second, .val (.long x14), .second, .val (.int (1 : Int32))]) rfl k) ?_
        refine own_st (fun _ k => XS.iload X107.here hx rfl (hb hby at_354) rfl k) ?_
        show own_Go _ _ _ _ (T107.setTop (mkF m 356 #[.val (.int u0), .val (.long u1), .second, .val (.long u2), .second, .val (.long (own_inv (-7046029254386353131 : Int64))), .second, .val (.int nI), .val (.int tI), .val (.ref b81), .val (.ref b92), .val (.ref b101), .val (.long x12), .second, .val (.long x14), .second, .val (.int (1 : Int32))] [(.int (1 : Int32))]))
        refine own_st (fun _ k => XS.ifNo X107.here hx rfl (hb hby at_356) rfl ((if0 _ _).trans (feq (by decide : ¬ ((1 : Int32) = (0 : Int32)))).1) k) ?_
        refine own_st (fun _ k => XS.aload X107.here hx rfl (hb hby at_359) rfl rfl k) ?_
        refine own_st (fun _ k => XS.aload X107.here hx rfl (hb hby at_361) rfl rfl k) ?_
        refine own_st (fun _ k => XS.iconst X107.here hx rfl (hb hby at_363) k) ?_
        show own_Go _ _ _ _ (T107.setTop (mkF m 364 #[.val (.int u0), .val (.long u1), .second, .val (.long u2), .second, .val (.long (own_inv (-7046029254386353131 : Int64))), .second, .val (.int nI), .val (.int tI), .val (.ref b81), .val (.ref b92), .val (.ref b101), .val (.long x12), .second, .val (.long x14), .second, .val (.int (1 : Int32))] [(.int (2 : Int32)), (.ref b81), (.ref b101)]))
        obtain ⟨cl109, Ar109, -, Sz109, Nn109, Hs109, -⟩ := id VaL
        have hin109 : ¬ ((2 : Int32) < 0 ∨ cl109.slots.size ≤ ((2 : Int32)).toNatClampNeg) := inb_of Sz109 ⟨(by decide : ¬ ((2 : Int32) < (0 : Int32))), (by decide : (2 : Int32) < (5 : Int32))⟩
        have hat109 : cl109.slots[((2 : Int32)).toNatClampNeg]? = some (.long (own_kf u0 u1 2)) := Hs109.at hin109 rfl
        refine own_st (X107.laload hx (j := (2 : Int32)) (v := (.long (own_kf u0 u1 2))) (by rw [eq107]; exact Ar109.1) (State.isArrayOf_alike hZ.alike Ar109.2.1) Ar109.2.2 hin109 hat109 (g := (mkF m 364 #[.val (.int u0), .val (.long u1), .second, .val (.long u2), .second, .val (.long (own_inv (-7046029254386353131 : Int64))), .second, .val (.int nI), .val (.int tI), .val (.ref b81), .val (.ref b92), .val (.ref b101), .val (.long x12), .second, .val (.long x14), .second, .val (.int (1 : Int32))] [(.int (2 : Int32)), (.ref b81), (.ref b101)])) rfl rfl (hb hby at_364)) ?_
        show own_Go _ _ _ _ (T107.setTop (mkF m 365 #[.val (.int u0), .val (.long u1), .second, .val (.long u2), .second, .val (.long (own_inv (-7046029254386353131 : Int64))), .second, .val (.int nI), .val (.int tI), .val (.ref b81), .val (.ref b92), .val (.ref b101), .val (.long x12), .second, .val (.long x14), .second, .val (.int (1 : Int32))] [(.long (own_kf u0 u1 2)), (.ref b101)]))
        obtain ⟨cq110, kq110, q110a, q110b, q110c⟩ := isOf hZ eq107 EL
        obtain ⟨_, _, ⟨T110, L110, k110, n110⟩, -, X110, ⟨Lc110, hQ110, l110, y110, z110⟩, st110⟩ := X107.virtualBack hx (y := (⟨"quillvax/store/LongMap", "get", "(J)J"⟩ : MethodName)) (z := (⟨"quillvax/store/LongMap", "get", "(J)J"⟩ : MethodName)) hown (mvT hZ (hw _ (List.mem_of_getElem? (i := 48) rfl))) (mvT hZ (hw _ (List.mem_of_getElem? (i := 49) rfl))) (notFace_of_selects (args := #[]) (mvT hZ (hw _ (List.mem_of_getElem? (i := 51) rfl)))) (mvT hZ (hw _ (List.mem_of_getElem? (i := 51) rfl))) (mvT hZ (hw _ (List.mem_of_getElem? (i := 50) rfl))) (by decide) (backOf (W := 0) (rm10 l Z a0 hw [] b101 ka102 wa102 kk102 kw102 KR WR (own_kf u0 u1 2) g2 hL n0 ZL EL FkL FvL FsL VkL VwL gf2) hZ (hw _ (List.mem_of_getElem? (i := 52) rfl)) (hw _ (List.mem_of_getElem? (i := 16) rfl)) (by decide) (by decide)) q110a q110c (g := (mkF m 365 #[.val (.int u0), .val (.long u1), .second, .val (.long u2), .second, .val (.long (own_inv (-7046029254386353131 : Int64))), .second, .val (.int nI), .val (.int tI), .val (.ref b81), .val (.ref b92), .val (.ref b101), .val (.long x12), .second, .val (.long x14), .second, .val (.int (1 : Int32))] [(.long (own_kf u0 u1 2)), (.ref b101)])) rfl (by rw [hml]; rfl) (Steps.refl _) (argsL := [(.long (own_kf u0 u1 2))]) (rest := []) (lenOf own_pd0 rfl) rfl (by show 2 * 0 + _ ≤ _; exact Nat.le_of_eq rfl) (hb hby at_365) (fun _ _ => ⟨rfl, eq107, (by decide : 5 + 0 ≤ _), (by decide : 45 + 0 ≤ _)⟩)
        dsimp only [Pt.U, Pt.locs, Pt.cells, Pt.slots] at X110 l110 y110 z110 st110 hQ110
        rw [l110, y110, z110] at X110
        obtain ⟨rfl, Nq110, eq110⟩ := hQ110
        have N110 := Fr.app N107 Nq110
        refine own_tr st110 ?_
        show own_Go _ _ _ _ (T110.setTop (mkF m 368 #[.val (.int u0), .val (.long u1), .second, .val (.long u2), .second, .val (.long (own_inv (-7046029254386353131 : Int64))), .second, .val (.int nI), .val (.int tI), .val (.ref b81), .val (.ref b92), .val (.ref b101), .val (.long x12), .second, .val (.long x14), .second, .val (.int (1 : Int32))] [(.long (WR g2))]))
        refine own_join (fun y2 : Int64 => T110.setTop (mkF m 388 #[.val (.int u0), .val (.long u1), .second, .val (.long u2), .second, .val (.long (own_inv (-7046029254386353131 : Int64))), .second, .val (.int nI), .val (.int tI), .val (.ref b81), .val (.ref b92), .val (.ref b101), .val (.long x12), .second, .val (.long x14), .second, .val (.int (1 : Int32))] [(.long y2), (.long (WR g2))])) (fun y2 => y2 = (if (2 : Int32) < nI then (if tI = (2 : Int32) then (0 : Int64) else (own_vf u2 2)) else (0 : Int64))) ?_ ?_
        · intro y2 hj111
          show own_Go _ _ _ _ (T110.setTop (mkF m 388 #[.val (.int u0), .val (.long u1), .second, .val (.long u2), .second, .val (.long (own_inv (-7046029254386353131 : Int64))), .second, .val (.int nI), .val (.int tI), .val (.ref b81), .val (.ref b92), .val (.ref b101), .val (.long x12), .second, .val (.long x14), .second, .val (.int (1 : Int32))] [(.long y2), (.long (WR g2))]))
          refine own_st (fun _ k => XS.lcmp X110.here hx rfl (hb hby at_388) rfl k) ?_
          show own_Go _ _ _ _ (T110.setTop (mkF m 389 #[.val (.int u0), .val (.long u1), .second, .val (.long u2), .second, .val (.long (own_inv (-7046029254386353131 : Int64))), .second, .val (.int nI), .val (.int tI), .val (.ref b81), .val (.ref b92), .val (.ref b101), .val (.long x12), .second, .val (.long x14), .second, .val (.int (1 : Int32))] [(.int (lcmpW (WR g2) y2))]))
          refine own_st (fun _ k => XS.ifNo X110.here hx rfl (hb hby at_389) rfl ((if0 _ _).trans (teq ((lw_eq _ _).mpr (gv2.trans hj111.symm))).2) k) ?_
          refine own_st (fun _ k => XS.iconst X110.here hx rfl (hb hby at_392) k) ?_
          refine own_st (fun _ k => XS.goto X110.here hx rfl (pc0 := 393) (pc' := 397) rfl (hb hby at_393) (by decide) (by decide) k) ?_
          refine own_st (fun _ k => XS.istore X110.here hx rfl (hb hby at_397) rfl (l' := #[.val (.int u0), .val (.long u1), .second, .val (.long u2), .second, .val (.long (own_inv (-7046029254386353131 : Int64))), .second, .val (.int nI), .val (.int tI), .val (.ref b81), .val (.ref b92), .val (.ref b101), .val (.long x12), .second, .val (.long x14), .second, .val (.int (1 : Int32))]) rfl k) ?_
          refine own_st (fun _ k => XS.iload X110.here hx rfl (hb hby at_399) rfl k) ?_
          show own_Go _ _ _ _ (T110.setTop (mkF m 401 #[.val (.int u0), .val (.long u1), .second, .val (.long u2), .second, .val (.long (own_inv (-7046029254386353131 : Int64))), .second, .val (.int nI), .val (.int tI), .val (.ref b81), .val (.ref b92), .val (.ref b101), .val (.long x12), .second, .val (.long x14), .second, .val (.int (1 : Int32))] [(.int (1 : Int32))]))
          refine own_st (fun _ k => XS.ifNo X110.here hx rfl (hb hby at_401) rfl ((if0 _ _).trans (feq (by decide : ¬ ((1 : Int32) = (0 : Int32)))).1) k) ?_
          refine own_st (fun _ k => XS.aload X110.here hx rfl (hb hby at_404) rfl rfl k) ?_
          refine own_st (fun _ k => XS.aload X110.here hx rfl (hb hby at_406) rfl rfl k) ?_
          refine own_st (fun _ k => XS.iconst X110.here hx rfl (hb hby at_408) k) ?_
          show own_Go _ _ _ _ (T110.setTop (mkF m 409 #[.val (.int u0), .val (.long u1), .second, .val (.long u2), .second, .val (.long (own_inv (-7046029254386353131 : Int64))), .second, .val (.int nI), .val (.int tI), .val (.ref b81), .val (.ref b92), .val (.ref b101), .val (.long x12), .second, .val (.long x14), .second, .val (.int (1 : Int32))] [(.int (3 : Int32)), (.ref b81), (.ref b101)]))
          obtain ⟨cl112, Ar112, -, Sz112, Nn112, Hs112, -⟩ := id VaL
          have hin112 : ¬ ((3 : Int32) < 0 ∨ cl112.slots.size ≤ ((3 : Int32)).toNatClampNeg) := inb_of Sz112 ⟨(by decide : ¬ ((3 : Int32) < (0 : Int32))), (by decide : (3 : Int32) < (5 : Int32))⟩
          have hat112 : cl112.slots[((3 : Int32)).toNatClampNeg]? = some (.long (own_kf u0 u1 3)) := Hs112.at hin112 rfl
          refine own_st (X110.laload hx (j := (3 : Int32)) (v := (.long (own_kf u0 u1 3))) (by rw [eq110]; exact Ar112.1) (State.isArrayOf_alike hZ.alike Ar112.2.1) Ar112.2.2 hin112 hat112 (g := (mkF m 409 #[.val (.int u0), .val (.long u1), .second, .val (.long u2), .second, .val (.long (own_inv (-7046029254386353131 : Int64))), .second, .val (.int nI), .val (.int tI), .val (.ref b81), .val (.ref b92), .val (.ref b101), .val (.long x12), .second, .val (.long x14), .second, .val (.int (1 : Int32))] [(.int (3 : Int32)), (.ref b81), (.ref b101)])) rfl rfl (hb hby at_409)) ?_
          show own_Go _ _ _ _ (T110.setTop (mkF m 410 #[.val (.int u0), .val (.long u1), .second, .val (.long u2), .second, .val (.long (own_inv (-7046029254386353131 : Int64))), .second, .val (.int nI), .val (.int tI), .val (.ref b81), .val (.ref b92), .val (.ref b101), .val (.long x12), .second, .val (.long x14), .second, .val (.int (1 : Int32))] [(.long (own_kf u0 u1 3)), (.ref b101)]))
          obtain ⟨cq113, kq113, q113a, q113b, q113c⟩ := isOf hZ eq110 EL
          obtain ⟨_, _, ⟨T113, L113, k113, n113⟩, -, X113, ⟨Lc113, hQ113, l113, y113, z113⟩, st113⟩ := X110.virtualBack hx (y := (⟨"quillvax/store/LongMap", "get", "(J)J"⟩ : MethodName)) (z := (⟨"quillvax/store/LongMap", "get", "(J)J"⟩ : MethodName)) hown (mvT hZ (hw _ (List.mem_of_getElem? (i := 48) rfl))) (mvT hZ (hw _ (List.mem_of_getElem? (i := 49) rfl))) (notFace_of_selects (args := #[]) (mvT hZ (hw _ (List.mem_of_getElem? (i := 51) rfl)))) (mvT hZ (hw _ (List.mem_of_getElem? (i := 51) rfl))) (mvT hZ (hw _ (List.mem_of_getElem? (i := 50) rfl))) (by decide) (backOf (W := 0) (rm10 l Z a0 hw [] b101 ka102 wa102 kk102 kw102 KR WR (own_kf u0 u1 3) g3 hL n0 ZL EL FkL FvL FsL VkL VwL gf3) hZ (hw _ (List.mem_of_getElem? (i := 52) rfl)) (hw _ (List.mem_of_getElem? (i := 16) rfl)) (by decide) (by decide)) q113a q113c (g := (mkF m 410 #[.val (.int u0), .val (.long u1), .second, .val (.long u2), .second, .val (.long (own_inv (-7046029254386353131 : Int64))), .second, .val (.int nI), .val (.int tI), .val (.ref b81), .val (.ref b92), .val (.ref b101), .val (.long x12), .second, .val (.long x14), .second, .val (.int (1 : Int32))] [(.long (own_kf u0 u1 3)), (.ref b101)])) rfl (by rw [hml]; rfl) (Steps.refl _) (argsL := [(.long (own_kf u0 u1 3))]) (rest := []) (lenOf own_pd0 rfl) rfl (by show 2 * 0 + _ ≤ _; exact Nat.le_of_eq rfl) (hb hby at_410) (fun _ _ => ⟨rfl, eq110, (by decide : 5 + 0 ≤ _), (by decide : 45 + 0 ≤ _)⟩)
          dsimp only [Pt.U, Pt.locs, Pt.cells, Pt.slots] at X113 l113 y113 z113 st113 hQ113
          rw [l113, y113, z113] at X113
          obtain ⟨rfl, Nq113, eq113⟩ := hQ113
          have N113 := Fr.app N110 Nq113
          refine own_tr st113 ?_
          show own_Go _ _ _ _ (T113.setTop (mkF m 413 #[.val (.int u0), .val (.long u1), .second, .val (.long u2), .second, .val (.long (own_inv (-7046029254386353131 : Int64))), .second, .val (.int nI), .val (.int tI), .val (.ref b81), .val (.ref b92), .val (.ref b101), .val (.long x12), .second, .val (.long x14), .second, .val (.int (1 : Int32))] [(.long (WR g3))]))
          refine own_join (fun y3 : Int64 => T113.setTop (mkF m 433 #[.val (.int u0), .val (.long u1), .second, .val (.long u2), .second, .val (.long (own_inv (-7046029254386353131 : Int64))), .second, .val (.int nI), .val (.int tI), .val (.ref b81), .val (.ref b92), .val (.ref b101), .val (.long x12), .second, .val (.long x14), .second, .val (.int (1 : Int32))] [(.long y3), (.long (WR g3))])) (fun y3 => y3 = (if (3 : Int32) < nI then (if tI = (3 : Int32) then (0 : Int64) else (own_vf u2 3)) else (0 : Int64))) ?_ ?_
          · intro y3 hj114
            show own_Go _ _ _ _ (T113.setTop (mkF m 433 #[.val (.int u0), .val (.long u1), .second, .val (.long u2), .second, .val (.long (own_inv (-7046029254386353131 : Int64))), .second, .val (.int nI), .val (.int tI), .val (.ref b81), .val (.ref b92), .val (.ref b101), .val (.long x12), .second, .val (.long x14), .second, .val (.int (1 : Int32))] [(.long y3), (.long (WR g3))]))
            refine own_st (fun _ k => XS.lcmp X113.here hx rfl (hb hby at_433) rfl k) ?_
            show own_Go _ _ _ _ (T113.setTop (mkF m 434 #[.val (.int u0), .val (.long u1), .second, .val (.long u2), .second, .val (.long (own_inv (-7046029254386353131 : Int64))), .second, .val (.int nI), .val (.int tI), .val (.ref b81), .val (.ref b92), .val (.ref b101), .val (.long x12), .second, .val (.long x14), .second, .val (.int (1 : Int32))] [(.int (lcmpW (WR g3) y3))]))
            refine own_st (fun _ k => XS.ifNo X113.here hx rfl (hb hby at_434) rfl ((if0 _ _).trans (teq ((lw_eq _ _).mpr (gv3.trans hj114.symm))).2) k) ?_
            refine own_st (fun _ k => XS.iconst X113.here hx rfl (hb hby at_437) k) ?_
            refine own_st (fun _ k => XS.goto X113.here hx rfl (pc0 := 438) (pc' := 442) rfl (hb hby at_438) (by decide) (by decide) k) ?_
            refine own_st (fun _ k => XS.istore X113.here hx rfl (hb hby at_442) rfl (l' := #[.val (.int u0), .val (.long u1), .second, .val (.long u2), .second, .val (.long (own_inv (-7046029254386353131 : Int64))), .second, .val (.int nI), .val (.int tI), .val (.ref b81), .val (.ref b92), .val (.ref b101), .val (.long x12), .second, .val (.long x14), .second, .val (.int (1 : Int32))]) rfl k) ?_
            refine own_st (fun _ k => XS.iload X113.here hx rfl (hb hby at_444) rfl k) ?_
            show own_Go _ _ _ _ (T113.setTop (mkF m 446 #[.val (.int u0), .val (.long u1), .second, .val (.long u2), .second, .val (.long (own_inv (-7046029254386353131 : Int64))), .second, .val (.int nI), .val (.int tI), .val (.ref b81), .val (.ref b92), .val (.ref b101), .val (.long x12), .second, .val (.long x14), .second, .val (.int (1 : Int32))] [(.int (1 : Int32))]))
            exact hG _ _ X113 N113
          · intro J114
            show own_Go _ _ _ _ (T113.setTop (mkF m 413 #[.val (.int u0), .val (.long u1), .second, .val (.long u2), .second, .val (.long (own_inv (-7046029254386353131 : Int64))), .second, .val (.int nI), .val (.int tI), .val (.ref b81), .val (.ref b92), .val (.ref b101), .val (.long x12), .second, .val (.long x14), .second, .val (.int (1 : Int32))] [(.long (WR g3))]))
            refine own_st (fun _ k => XS.iconst X113.here hx rfl (hb hby at_413) k) ?_
            refine own_st (fun _ k => XS.iload X113.here hx rfl (hb hby at_414) rfl k) ?_
            show own_Go _ _ _ _ (T113.setTop (mkF m 416 #[.val (.int u0), .val (.long u1), .second, .val (.long u2), .second, .val (.long (own_inv (-7046029254386353131 : Int64))), .second, .val (.int nI), .val (.int tI), .val (.ref b81), .val (.ref b92), .val (.ref b101), .val (.long x12), .second, .val (.long x14), .second, .val (.int (1 : Int32))] [(.int nI), (.int (3 : Int32)), (.long (WR g3))]))
            by_cases hc115 : (3 : Int32) < nI
            · skip
              refine own_st (fun _ k => XS.icmpNo X113.here hx rfl (hb hby at_416) rfl (tlt hc115).2.1 k) ?_
              show own_Go _ _ _ _ (T113.setTop (mkF m 419 #[.val (.int u0), .val (.long u1), .second, .val (.long u2), .second, .val (.long (own_inv (-7046029254386353131 : Int64))), .second, .val (.int nI), .val (.int tI), .val (.ref b81), .val (.ref b92), .val (.ref b101), .val (.long x12), .second, .val (.long x14), .second, .val (.int (1 : Int32))] [(.long (WR g3))]))
              refine own_st (fun _ k => XS.iload X113.here hx rfl (hb hby at_419) rfl k) ?_
              refine own_st (fun _ k => XS.iconst X113.here hx rfl (hb hby at_421) k) ?_
              show own_Go _ _ _ _ (T113.setTop (mkF m 422 #[.val (.int u0), .val (.long u1), .second, .val (.long u2), .second, .val (.long (own_inv (-7046029254386353131 : Int64))), .second, .val (.int nI), .val (.int tI), .val (.ref b81), .val (.ref b92), .val (.ref b101), .val (.long x12), .second, .val (.long x14), .second, .val (.int (1 : Int32))] [(.int (3 : Int32)), (.int tI), (.long (WR g3))]))
              by_cases hc116 : tI = (3 : Int32)
              · skip
                refine own_st (fun _ k => XS.icmpYes X113.here hx rfl (pc0 := 422) (pc' := 432) rfl (hb hby at_422) rfl (teq hc116).1 (by decide) (by decide) k) ?_
                show own_Go _ _ _ _ (T113.setTop (mkF m 432 #[.val (.int u0), .val (.long u1), .second, .val (.long u2), .second, .val (.long (own_inv (-7046029254386353131 : Int64))), .second, .val (.int nI), .val (.int tI), .val (.ref b81), .val (.ref b92), .val (.ref b101), .val (.long x12), .second, .val (.long x14), .second, .val (.int (1 : Int32))] [(.long (WR g3))]))
                refine own_st (fun _ k => XS.lconst X113.here hx rfl (hb hby at_432) k) ?_
                show own_Go _ _ _ _ (T113.setTop (mkF m 433 #[.val (.int u0), .val (.long u1), .second, .val (.long u2), .second, .val (.long (own_inv (-7046029254386353131 : Int64))), .second, .val (.int nI), .val (.int tI), .val (.ref b81), .val (.ref b92), .val (.ref b101), .val (.long x12), .second, .val (.long x14), .second, .val (.int (1 : Int32))] [(.long (0 : Int64)), (.long (WR g3))]))
                exact J114 _ (by rw [if_pos hc115, if_pos hc116])
              · skip
                refine own_st (fun _ k => XS.icmpNo X113.here hx rfl (hb hby at_422) rfl (feq hc116).1 k) ?_
                show own_Go _ _ _ _ (T113.setTop (mkF m 425 #[.val (.int u0), .val (.long u1), .second, .val (.long u2), .second, .val (.long (own_inv (-7046029254386353131 : Int64))), .second, .val (.int nI), .val (.int tI), .val (.ref b81), .val (.ref b92), .val (.ref b101), .val (.long x12), .second, .val (.long x14), .second, .val (.int (1 : Int32))] [(.long (WR g3))]))
                refine own_st (fun _ k => XS.aload X113.here hx rfl (hb hby at_425) rfl rfl k) ?_
                refine own_st (fun _ k => XS.iconst X113.here hx rfl (hb hby at_427) k) ?_
                show own_Go _ _ _ _ (T113.setTop (mkF m 428 #[.val (.int u0), .val (.long u1), .second, .val (.long u2), .second, .val (.long (own_inv (-7046029254386353131 : Int64))), .second, .val (.int nI), .val (.int tI), .val (.ref b81), .val (.ref b92), .val (.ref b101), .val (.long x12), .second, .val (.long x14), .second, .val (.int (1 : Int32))] [(.int (3 : Int32)), (.ref b92), (.long (WR g3))]))
                obtain ⟨cl117, Ar117, -, Sz117, Nn117, Hs117, -⟩ := id VbL
                have hin117 : ¬ ((3 : Int32) < 0 ∨ cl117.slots.size ≤ ((3 : Int32)).toNatClampNeg) := inb_of Sz117 ⟨(by decide : ¬ ((3 : Int32) < (0 : Int32))), (by decide : (3 : Int32) < (4 : Int32))⟩
                have hat117 : cl117.slots[((3 : Int32)).toNatClampNeg]? = some (.long (own_vf u2 3)) := Hs117.at hin117 rfl
                refine own_st (X113.laload hx (j := (3 : Int32)) (v := (.long (own_vf u2 3))) (by rw [eq113]; exact Ar117.1) (State.isArrayOf_alike hZ.alike Ar117.2.1) Ar117.2.2 hin117 hat117 (g := (mkF m 428 #[.val (.int u0), .val (.long u1), .second, .val (.long u2), .second, .val (.long (own_inv (-7046029254386353131 : Int64))), .second, .val (.int nI), .val (.int tI), .val (.ref b81), .val (.ref b92), .val (.ref b101), .val (.long x12), .second, .val (.long x14), .second, .val (.int (1 : Int32))] [(.int (3 : Int32)), (.ref b92), (.long (WR g3))])) rfl rfl (hb hby at_428)) ?_
                refine own_st (fun _ k => XS.goto X113.here hx rfl (pc0 := 429) (pc' := 433) rfl (hb hby at_429) (by decide) (by decide) k) ?_
                show own_Go _ _ _ _ (T113.setTop (mkF m 433 #[.val (.int u0), .val (.long u1), .second, .val (.long u2), .second, .val (.long (own_inv (-7046029254386353131 : Int64))), .second, .val (.int nI), .val (.int tI), .val (.ref b81), .val (.ref b92), .val (.ref b101), .val (.long x12), .second, .val (.long x14), .second, .val (.int (1 : Int32))] [(.long (own_vf u2 3)), (.long (WR g3))]))
                exact J114 _ (by rw [if_pos hc115, if_neg hc116])
            · skip
              refine own_st (fun _ k => XS.icmpYes X113.here hx rfl (pc0 := 416) (pc' := 432) rfl (hb hby at_416) rfl (flt hc115).2.1 (by decide) (by decide) k) ?_
              show own_Go _ _ _ _ (T113.setTop (mkF m 432 #[.val (.int u0), .val (.long u1), .second, .val (.long u2), .second, .val (.long (own_inv (-7046029254386353131 : Int64))), .second, .val (.int nI), .val (.int tI), .val (.ref b81), .val (.ref b92), .val (.ref b101), .val (.long x12), .second, .val (.long x14), .second, .val (.int (1 : Int32))] [(.long (WR g3))]))
              refine own_st (fun _ k => XS.lconst X113.here hx rfl (hb hby at_432) k) ?_
              show own_Go _ _ _ _ (T113.setTop (mkF m 433 #[.val (.int u0), .val (.long u1), .second, .val (.long u2), .second, .val (.long (own_inv (-7046029254386353131 : Int64))), .second, .val (.int nI), .val (.int tI), .val (.ref b81), .val (.ref b92), .val (.ref b101), .val (.long x12), .second, .val (.long x14), .second, .val (.int (1 : Int32))] [(.long (0 : Int64)), (.long (WR g3))]))
              exact J114 _ (by rw [if_neg hc115])
        · intro J111
          show own_Go _ _ _ _ (T110.setTop (mkF m 368 #[.val (.int u0), .val (.long u1), .second, .val (.long u2), .second, .val (.long (own_inv (-7046029254386353131 : Int64))), .second, .val (.int nI), .val (.int tI), .val (.ref b81), .val (.ref b92), .val (.ref b101), .val (.long x12), .second, .val (.long x14), .second, .val (.int (1 : Int32))] [(.long (WR g2))]))
          refine own_st (fun _ k => XS.iconst X110.here hx rfl (hb hby at_368) k) ?_
          refine own_st (fun _ k => XS.iload X110.here hx rfl (hb hby at_369) rfl k) ?_
          show own_Go _ _ _ _ (T110.setTop (mkF m 371 #[.val (.int u0), .val (.long u1), .second, .val (.long u2), .second, .val (.long (own_inv (-7046029254386353131 : Int64))), .second, .val (.int nI), .val (.int tI), .val (.ref b81), .val (.ref b92), .val (.ref b101), .val (.long x12), .second, .val (.long x14), .second, .val (.int (1 : Int32))] [(.int nI), (.int (2 : Int32)), (.long (WR g2))]))
          by_cases hc118 : (2 : Int32) < nI
          · skip
            refine own_st (fun _ k => XS.icmpNo X110.here hx rfl (hb hby at_371) rfl (tlt hc118).2.1 k) ?_
            show own_Go _ _ _ _ (T110.setTop (mkF m 374 #[.val (.int u0), .val (.long u1), .second, .val (.long u2), .second, .val (.long (own_inv (-7046029254386353131 : Int64))), .second, .val (.int nI), .val (.int tI), .val (.ref b81), .val (.ref b92), .val (.ref b101), .val (.long x12), .second, .val (.long x14), .second, .val (.int (1 : Int32))] [(.long (WR g2))]))
            refine own_st (fun _ k => XS.iload X110.here hx rfl (hb hby at_374) rfl k) ?_
            refine own_st (fun _ k => XS.iconst X110.here hx rfl (hb hby at_376) k) ?_
            show own_Go _ _ _ _ (T110.setTop (mkF m 377 #[.val (.int u0), .val (.long u1), .second, .val (.long u2), .second, .val (.long (own_inv (-7046029254386353131 : Int64))), .second, .val (.int nI), .val (.int tI), .val (.ref b81), .val (.ref b92), .val (.ref b101), .val (.long x12), .second, .val (.long x14), .second, .val (.int (1 : Int32))] [(.int (2 : Int32)), (.int tI), (.long (WR g2))]))
            by_cases hc119 : tI = (2 : Int32)
            · skip
              refine own_st (fun _ k => XS.icmpYes X110.here hx rfl (pc0 := 377) (pc' := 387) rfl (hb hby at_377) rfl (teq hc119).1 (by decide) (by decide) k) ?_
              show own_Go _ _ _ _ (T110.setTop (mkF m 387 #[.val (.int u0), .val (.long u1), .second, .val (.long u2), .second, .val (.long (own_inv (-7046029254386353131 : Int64))), .second, .val (.int nI), .val (.int tI), .val (.ref b81), .val (.ref b92), .val (.ref b101), .val (.long x12), .second, .val (.long x14), .second, .val (.int (1 : Int32))] [(.long (WR g2))]))
              refine own_st (fun _ k => XS.lconst X110.here hx rfl (hb hby at_387) k) ?_
              show own_Go _ _ _ _ (T110.setTop (mkF m 388 #[.val (.int u0), .val (.long u1), .second, .val (.long u2), .second, .val (.long (own_inv (-7046029254386353131 : Int64))), .second, .val (.int nI), .val (.int tI), .val (.ref b81), .val (.ref b92), .val (.ref b101), .val (.long x12), .second, .val (.long x14), .second, .val (.int (1 : Int32))] [(.long (0 : Int64)), (.long (WR g2))]))
              exact J111 _ (by rw [if_pos hc118, if_pos hc119])
            · skip
              refine own_st (fun _ k => XS.icmpNo X110.here hx rfl (hb hby at_377) rfl (feq hc119).1 k) ?_
              show own_Go _ _ _ _ (T110.setTop (mkF m 380 #[.val (.int u0), .val (.long u1), .second, .val (.long u2), .second, .val (.long (own_inv (-7046029254386353131 : Int64))), .second, .val (.int nI), .val (.int tI), .val (.ref b81), .val (.ref b92), .val (.ref b101), .val (.long x12), .second, .val (.long x14), .second, .val (.int (1 : Int32))] [(.long (WR g2))]))
              refine own_st (fun _ k => XS.aload X110.here hx rfl (hb hby at_380) rfl rfl k) ?_
              refine own_st (fun _ k => XS.iconst X110.here hx rfl (hb hby at_382) k) ?_
              show own_Go _ _ _ _ (T110.setTop (mkF m 383 #[.val (.int u0), .val (.long u1), .second, .val (.long u2), .second, .val (.long (own_inv (-7046029254386353131 : Int64))), .second, .val (.int nI), .val (.int tI), .val (.ref b81), .val (.ref b92), .val (.ref b101), .val (.long x12), .second, .val (.long x14), .second, .val (.int (1 : Int32))] [(.int (2 : Int32)), (.ref b92), (.long (WR g2))]))
              obtain ⟨cl120, Ar120, -, Sz120, Nn120, Hs120, -⟩ := id VbL
              have hin120 : ¬ ((2 : Int32) < 0 ∨ cl120.slots.size ≤ ((2 : Int32)).toNatClampNeg) := inb_of Sz120 ⟨(by decide : ¬ ((2 : Int32) < (0 : Int32))), (by decide : (2 : Int32) < (4 : Int32))⟩
              have hat120 : cl120.slots[((2 : Int32)).toNatClampNeg]? = some (.long (own_vf u2 2)) := Hs120.at hin120 rfl
              refine own_st (X110.laload hx (j := (2 : Int32)) (v := (.long (own_vf u2 2))) (by rw [eq110]; exact Ar120.1) (State.isArrayOf_alike hZ.alike Ar120.2.1) Ar120.2.2 hin120 hat120 (g := (mkF m 383 #[.val (.int u0), .val (.long u1), .second, .val (.long u2), .second, .val (.long (own_inv (-7046029254386353131 : Int64))), .second, .val (.int nI), .val (.int tI), .val (.ref b81), .val (.ref b92), .val (.ref b101), .val (.long x12), .second, .val (.long x14), .second, .val (.int (1 : Int32))] [(.int (2 : Int32)), (.ref b92), (.long (WR g2))])) rfl rfl (hb hby at_383)) ?_
              refine own_st (fun _ k => XS.goto X110.here hx rfl (pc0 := 384) (pc' := 388) rfl (hb hby at_384) (by decide) (by decide) k) ?_
              show own_Go _ _ _ _ (T110.setTop (mkF m 388 #[.val (.int u0), .val (.long u1), .second, .val (.long u2), .second, .val (.long (own_inv (-7046029254386353131 : Int64))), .second, .val (.int nI), .val (.int tI), .val (.ref b81), .val (.ref b92), .val (.ref b101), .val (.long x12), .second, .val (.long x14), .second, .val (.int (1 : Int32))] [(.long (own_vf u2 2)), (.long (WR g2))]))
              exact J111 _ (by rw [if_pos hc118, if_neg hc119])
          · skip
            refine own_st (fun _ k => XS.icmpYes X110.here hx rfl (pc0 := 371) (pc' := 387) rfl (hb hby at_371) rfl (flt hc118).2.1 (by decide) (by decide) k) ?_
            show own_Go _ _ _ _ (T110.setTop (mkF m 387 #[.val (.int u0), .val (.long u1), .second, .val (.long u2), .second, .val (.long (own_inv (-7046029254386353131 : Int64))), .second, .val (.int nI), .val (.int tI), .val (.ref b81), .val (.ref b92), .val (.ref b101), .val (.long x12), .second, .val (.long x14), .second, .val (.int (1 : Int32))] [(.long (WR g2))]))
            refine own_st (fun _ k => XS.lconst X110.here hx rfl (hb hby at_387) k) ?_
            show own_Go _ _ _ _ (T110.setTop (mkF m 388 #[.val (.int u0), .val (.long u1), .second, .val (.long u2), .second, .val (.long (own_inv (-7046029254386353131 : Int64))), .second, .val (.int nI), .val (.int tI), .val (.ref b81), .val (.ref b92), .val (.ref b101), .val (.long x12), .second, .val (.long x14), .second, .val (.int (1 : Int32))] [(.long (0 : Int64)), (.long (WR g2))]))
            exact J111 _ (by rw [if_neg hc118])
      · intro J108
        show own_Go _ _ _ _ (T107.setTop (mkF m 323 #[.val (.int u0), .val (.long u1), .second, .val (.long u2), .second, .val (.long (own_inv (-7046029254386353131 : Int64))), .second, .val (.int nI), .val (.int tI), .val (.ref b81), .val (.ref b92), .val (.ref b101), .val (.long x12), .second, .val (.long x14), .second, .val (.int (1 : Int32))] [(.long (WR g1))]))
        refine own_st (fun _ k => XS.iconst X107.here hx rfl (hb hby at_323) k) ?_
        refine own_st (fun _ k => XS.iload X107.here hx rfl (hb hby at_324) rfl k) ?_
        show own_Go _ _ _ _ (T107.setTop (mkF m 326 #[.val (.int u0), .val (.long u1), .second, .val (.long u2), .second, .val (.long (own_inv (-7046029254386353131 : Int64))), .second, .val (.int nI), .val (.int tI), .val (.ref b81), .val (.ref b92), .val (.ref b101), .val (.long x12), .second, .val (.long x14), .second, .val (.int (1 : Int32))] [(.int nI), (.int (1 : Int32)), (.long (WR g1))]))
        by_cases hc121 : (1 : Int32) < nI
        · skip
          refine own_st (fun _ k => XS.icmpNo X107.here hx rfl (hb hby at_326) rfl (tlt hc121).2.1 k) ?_
          show own_Go _ _ _ _ (T107.setTop (mkF m 329 #[.val (.int u0), .val (.long u1), .second, .val (.long u2), .second, .val (.long (own_inv (-7046029254386353131 : Int64))), .second, .val (.int nI), .val (.int tI), .val (.ref b81), .val (.ref b92), .val (.ref b101), .val (.long x12), .second, .val (.long x14), .second, .val (.int (1 : Int32))] [(.long (WR g1))]))
          refine own_st (fun _ k => XS.iload X107.here hx rfl (hb hby at_329) rfl k) ?_
          refine own_st (fun _ k => XS.iconst X107.here hx rfl (hb hby at_331) k) ?_
          show own_Go _ _ _ _ (T107.setTop (mkF m 332 #[.val (.int u0), .val (.long u1), .second, .val (.long u2), .second, .val (.long (own_inv (-7046029254386353131 : Int64))), .second, .val (.int nI), .val (.int tI), .val (.ref b81), .val (.ref b92), .val (.ref b101), .val (.long x12), .second, .val (.long x14), .second, .val (.int (1 : Int32))] [(.int (1 : Int32)), (.int tI), (.long (WR g1))]))
          by_cases hc122 : tI = (1 : Int32)
          · skip
            refine own_st (fun _ k => XS.icmpYes X107.here hx rfl (pc0 := 332) (pc' := 342) rfl (hb hby at_332) rfl (teq hc122).1 (by decide) (by decide) k) ?_
            show own_Go _ _ _ _ (T107.setTop (mkF m 342 #[.val (.int u0), .val (.long u1), .second, .val (.long u2), .second, .val (.long (own_inv (-7046029254386353131 : Int64))), .second, .val (.int nI), .val (.int tI), .val (.ref b81), .val (.ref b92), .val (.ref b101), .val (.long x12), .second, .val (.long x14), .second, .val (.int (1 : Int32))] [(.long (WR g1))]))
            refine own_st (fun _ k => XS.lconst X107.here hx rfl (hb hby at_342) k) ?_
            show own_Go _ _ _ _ (T107.setTop (mkF m 343 #[.val (.int u0), .val (.long u1), .second, .val (.long u2), .second, .val (.long (own_inv (-7046029254386353131 : Int64))), .second, .val (.int nI), .val (.int tI), .val (.ref b81), .val (.ref b92), .val (.ref b101), .val (.long x12), .second, .val (.long x14), .second, .val (.int (1 : Int32))] [(.long (0 : Int64)), (.long (WR g1))]))
            exact J108 _ (by rw [if_pos hc121, if_pos hc122])
          · skip
            refine own_st (fun _ k => XS.icmpNo X107.here hx rfl (hb hby at_332) rfl (feq hc122).1 k) ?_
            show own_Go _ _ _ _ (T107.setTop (mkF m 335 #[.val (.int u0), .val (.long u1), .second, .val (.long u2), .second, .val (.long (own_inv (-7046029254386353131 : Int64))), .second, .val (.int nI), .val (.int tI), .val (.ref b81), .val (.ref b92), .val (.ref b101), .val (.long x12), .second, .val (.long x14), .second, .val (.int (1 : Int32))] [(.long (WR g1))]))
            refine own_st (fun _ k => XS.aload X107.here hx rfl (hb hby at_335) rfl rfl k) ?_
            refine own_st (fun _ k => XS.iconst X107.here hx rfl (hb hby at_337) k) ?_
            show own_Go _ _ _ _ (T107.setTop (mkF m 338 #[.val (.int u0), .val (.long u1), .second, .val (.long u2), .second, .val (.long (own_inv (-7046029254386353131 : Int64))), .second, .val (.int nI), .val (.int tI), .val (.ref b81), .val (.ref b92), .val (.ref b101), .val (.long x12), .second, .val (.long x14), .second, .val (.int (1 : Int32))] [(.int (1 : Int32)), (.ref b92), (.long (WR g1))]))
            obtain ⟨cl123, Ar123, -, Sz123, Nn123, Hs123, -⟩ := id VbL
            have hin123 : ¬ ((1 : Int32) < 0 ∨ cl123.slots.size ≤ ((1 : Int32)).toNatClampNeg) := inb_of Sz123 ⟨(by decide : ¬ ((1 : Int32) < (0 : Int32))), (by decide : (1 : Int32) < (4 : Int32))⟩
            have hat123 : cl123.slots[((1 : Int32)).toNatClampNeg]? = some (.long (own_vf u2 1)) := Hs123.at hin123 rfl
            refine own_st (X107.laload hx (j := (1 : Int32)) (v := (.long (own_vf u2 1))) (by rw [eq107]; exact Ar123.1) (State.isArrayOf_alike hZ.alike Ar123.2.1) Ar123.2.2 hin123 hat123 (g := (mkF m 338 #[.val (.int u0), .val (.long u1), .second, .val (.long u2), .second, .val (.long (own_inv (-7046029254386353131 : Int64))), .second, .val (.int nI), .val (.int tI), .val (.ref b81), .val (.ref b92), .val (.ref b101), .val (.long x12), .second, .val (.long x14), .second, .val (.int (1 : Int32))] [(.int (1 : Int32)), (.ref b92), (.long (WR g1))])) rfl rfl (hb hby at_338)) ?_
            refine own_st (fun _ k => XS.goto X107.here hx rfl (pc0 := 339) (pc' := 343) rfl (hb hby at_339) (by decide) (by decide) k) ?_
            show own_Go _ _ _ _ (T107.setTop (mkF m 343 #[.val (.int u0), .val (.long u1), .second, .val (.long u2), .second, .val (.long (own_inv (-7046029254386353131 : Int64))), .second, .val (.int nI), .val (.int tI), .val (.ref b81), .val (.ref b92), .val (.ref b101), .val (.long x12), .second, .val (.long x14), .second, .val (.int (1 : Int32))] [(.long (own_vf u2 1)), (.long (WR g1))]))
            exact J108 _ (by rw [if_pos hc121, if_neg hc122])
        · skip
          refine own_st (fun _ k => XS.icmpYes X107.here hx rfl (pc0 := 326) (pc' := 342) rfl (hb hby at_326) rfl (flt hc121).2.1 (by decide) (by decide) k) ?_
          show own_Go _ _ _ _ (T107.setTop (mkF m 342 #[.val (.int u0), .val (.long u1), .second, .val (.long u2), .second, .val (.long (own_inv (-7046029254386353131 : Int64))), .second, .val (.int nI), .val (.int tI), .val (.ref b81), .val (.ref b92), .val (.ref b101), .val (.long x12), .second, .val (.long x14), .second, .val (.int (1 : Int32))] [(.long (WR g1))]))
          refine own_st (fun _ k => XS.lconst X107.here hx rfl (hb hby at_342) k) ?_
          show own_Go _ _ _ _ (T107.setTop (mkF m 343 #[.val (.int u0), .val (.long u1), .second, .val (.long u2), .second, .val (.long (own_inv (-7046029254386353131 : Int64))), .second, .val (.int nI), .val (.int tI), .val (.ref b81), .val (.ref b92), .val (.ref b101), .val (.long x12), .second, .val (.long x14), .second, .val (.int (1 : Int32))] [(.long (0 : Int64)), (.long (WR g1))]))
          exact J108 _ (by rw [if_neg hc121])
    · intro J105
      show own_Go _ _ _ _ (T104.setTop (mkF m 279 #[.val (.int u0), .val (.long u1), .second, .val (.long u2), .second, .val (.long (own_inv (-7046029254386353131 : Int64))), .second, .val (.int nI), .val (.int tI), .val (.ref b81), .val (.ref b92), .val (.ref b101), .val (.long x12), .second, .val (.long x14), .second, .val (.int (1 : Int32))] [(.long (WR g0))]))
      refine own_st (fun _ k => XS.iconst X104.here hx rfl (hb hby at_279) k) ?_
      refine own_st (fun _ k => XS.iload X104.here hx rfl (hb hby at_280) rfl k) ?_
      show own_Go _ _ _ _ (T104.setTop (mkF m 282 #[.val (.int u0), .val (.long u1), .second, .val (.long u2), .second, .val (.long (own_inv (-7046029254386353131 : Int64))), .second, .val (.int nI), .val (.int tI), .val (.ref b81), .val (.ref b92), .val (.ref b101), .val (.long x12), .second, .val (.long x14), .second, .val (.int (1 : Int32))] [(.int nI), (.int (0 : Int32)), (.long (WR g0))]))
      by_cases hc124 : (0 : Int32) < nI
      · skip
        refine own_st (fun _ k => XS.icmpNo X104.here hx rfl (hb hby at_282) rfl (tlt hc124).2.1 k) ?_
        show own_Go _ _ _ _ (T104.setTop (mkF m 285 #[.val (.int u0), .val (.long u1), .second, .val (.long u2), .second, .val (.long (own_inv (-7046029254386353131 : Int64))), .second, .val (.int nI), .val (.int tI), .val (.ref b81), .val (.ref b92), .val (.ref b101), .val (.long x12), .second, .val (.long x14), .second, .val (.int (1 : Int32))] [(.long (WR g0))]))
        refine own_st (fun _ k => XS.iload X104.here hx rfl (hb hby at_285) rfl k) ?_
        show own_Go _ _ _ _ (T104.setTop (mkF m 287 #[.val (.int u0), .val (.long u1), .second, .val (.long u2), .second, .val (.long (own_inv (-7046029254386353131 : Int64))), .second, .val (.int nI), .val (.int tI), .val (.ref b81), .val (.ref b92), .val (.ref b101), .val (.long x12), .second, .val (.long x14), .second, .val (.int (1 : Int32))] [(.int tI), (.long (WR g0))]))
        by_cases hc125 : tI = (0 : Int32)
        · skip
          refine own_st (fun _ k => XS.ifYes X104.here hx rfl (pc0 := 287) (pc' := 297) rfl (hb hby at_287) rfl ((if0 _ _).trans (teq hc125).1) (by decide) (by decide) k) ?_
          show own_Go _ _ _ _ (T104.setTop (mkF m 297 #[.val (.int u0), .val (.long u1), .second, .val (.long u2), .second, .val (.long (own_inv (-7046029254386353131 : Int64))), .second, .val (.int nI), .val (.int tI), .val (.ref b81), .val (.ref b92), .val (.ref b101), .val (.long x12), .second, .val (.long x14), .second, .val (.int (1 : Int32))] [(.long (WR g0))]))
          refine own_st (fun _ k => XS.lconst X104.here hx rfl (hb hby at_297) k) ?_
          show own_Go _ _ _ _ (T104.setTop (mkF m 298 #[.val (.int u0), .val (.long u1), .second, .val (.long u2), .second, .val (.long (own_inv (-7046029254386353131 : Int64))), .second, .val (.int nI), .val (.int tI), .val (.ref b81), .val (.ref b92), .val (.ref b101), .val (.long x12), .second, .val (.long x14), .second, .val (.int (1 : Int32))] [(.long (0 : Int64)), (.long (WR g0))]))
          exact J105 _ (by rw [if_pos hc124, if_pos hc125])
        · skip
          refine own_st (fun _ k => XS.ifNo X104.here hx rfl (hb hby at_287) rfl ((if0 _ _).trans (feq hc125).1) k) ?_
          show own_Go _ _ _ _ (T104.setTop (mkF m 290 #[.val (.int u0), .val (.long u1), .second, .val (.long u2), .second, .val (.long (own_inv (-7046029254386353131 : Int64))), .second, .val (.int nI), .val (.int tI), .val (.ref b81), .val (.ref b92), .val (.ref b101), .val (.long x12), .second, .val (.long x14), .second, .val (.int (1 : Int32))] [(.long (WR g0))]))
          refine own_st (fun _ k => XS.aload X104.here hx rfl (hb hby at_290) rfl rfl k) ?_
          refine own_st (fun _ k => XS.iconst X104.here hx rfl (hb hby at_292) k) ?_
          show own_Go _ _ _ _ (T104.setTop (mkF m 293 #[.val (.int u0), .val (.long u1), .second, .val (.long u2), .second, .val (.long (own_inv (-7046029254386353131 : Int64))), .second, .val (.int nI), .val (.int tI), .val (.ref b81), .val (.ref b92), .val (.ref b101), .val (.long x12), .second, .val (.long x14), .second, .val (.int (1 : Int32))] [(.int (0 : Int32)), (.ref b92), (.long (WR g0))]))
          obtain ⟨cl126, Ar126, -, Sz126, Nn126, Hs126, -⟩ := id VbL
          have hin126 : ¬ ((0 : Int32) < 0 ∨ cl126.slots.size ≤ ((0 : Int32)).toNatClampNeg) := inb_of Sz126 ⟨(by decide : ¬ ((0 : Int32) < (0 : Int32))), (by decide : (0 : Int32) < (4 : Int32))⟩
          have hat126 : cl126.slots[((0 : Int32)).toNatClampNeg]? = some (.long (own_vf u2 0)) := Hs126.at hin126 rfl
          refine own_st (X104.laload hx (j := (0 : Int32)) (v := (.long (own_vf u2 0))) (by rw [eq104]; exact Ar126.1) (State.isArrayOf_alike hZ.alike Ar126.2.1) Ar126.2.2 hin126 hat126 (g := (mkF m 293 #[.val (.int u0), .val (.long u1), .second, .val (.long u2), .second, .val (.long (own_inv (-7046029254386353131 : Int64))), .second, .val (.int nI), .val (.int tI), .val (.ref b81), .val (.ref b92), .val (.ref b101), .val (.long x12), .second, .val (.long x14), .second, .val (.int (1 : Int32))] [(.int (0 : Int32)), (.ref b92), (.long (WR g0))])) rfl rfl (hb hby at_293)) ?_
          refine own_st (fun _ k => XS.goto X104.here hx rfl (pc0 := 294) (pc' := 298) rfl (hb hby at_294) (by decide) (by decide) k) ?_
          show own_Go _ _ _ _ (T104.setTop (mkF m 298 #[.val (.int u0), .val (.long u1), .second, .val (.long u2), .second, .val (.long (own_inv (-7046029254386353131 : Int64))), .second, .val (.int nI), .val (.int tI), .val (.ref b81), .val (.ref b92), .val (.ref b101), .val (.long x12), .second, .val (.long x14), .second, .val (.int (1 : Int32))] [(.long (own_vf u2 0)), (.long (WR g0))]))
          exact J105 _ (by rw [if_pos hc124, if_neg hc125])
      · skip
        refine own_st (fun _ k => XS.icmpYes X104.here hx rfl (pc0 := 282) (pc' := 297) rfl (hb hby at_282) rfl (flt hc124).2.1 (by decide) (by decide) k) ?_
        show own_Go _ _ _ _ (T104.setTop (mkF m 297 #[.val (.int u0), .val (.long u1), .second, .val (.long u2), .second, .val (.long (own_inv (-7046029254386353131 : Int64))), .second, .val (.int nI), .val (.int tI), .val (.ref b81), .val (.ref b92), .val (.ref b101), .val (.long x12), .second, .val (.long x14), .second, .val (.int (1 : Int32))] [(.long (WR g0))]))
        refine own_st (fun _ k => XS.lconst X104.here hx rfl (hb hby at_297) k) ?_
        show own_Go _ _ _ _ (T104.setTop (mkF m 298 #[.val (.int u0), .val (.long u1), .second, .val (.long u2), .second, .val (.long (own_inv (-7046029254386353131 : Int64))), .second, .val (.int nI), .val (.int tI), .val (.ref b81), .val (.ref b92), .val (.ref b101), .val (.long x12), .second, .val (.long x14), .second, .val (.int (1 : Int32))] [(.long (0 : Int64)), (.long (WR g0))]))
        exact J105 _ (by rw [if_neg hc124])
  rcases own_n5 ((u0.toUInt32 >>> ((17 : Int32) &&& 31).toUInt32).toInt32) with hs127 | hs127 | hs127 | hs127 | hs127
  · skip
    rw [hs127]
    have HH := own_H5 u0 u1 u2
    obtain ⟨tt, -, et0, -⟩ := own_chkE (own_c04 _ (own_offN u0 0).1 _ (own_offN u0 1).1 _ (own_offN u0 2).1 _ (own_offN u0 3).1 _ (own_offN u0 4).1)
    have etN := et0
    have RR0 := own_R0 (own_kf u0 u1) (own_vf u2) (own_base u0)
    have eb0 : tt = List.replicate 16 0 := (Option.some.inj et0).symm
    rw [← eb0] at RR0
    show own_Go _ _ _ _ (T102.setTop (mkF m 145 #[.val (.int u0), .val (.long u1), .second, .val (.long u2), .second, .val (.long (own_inv (-7046029254386353131 : Int64))), .second, .val (.int (0 : Int32)), .val (.int ((((u0.toUInt32 >>> ((14 : Int32) &&& 31).toUInt32).toInt32) &&& (7 : Int32)) - ((((u0.toUInt32 >>> ((14 : Int32) &&& 31).toUInt32).toInt32) &&& (7 : Int32)) / (5 : Int32)) * (5 : Int32))), .val (.ref b81), .val (.ref b92), .val (.ref b101), .unset, .unset, .unset, .unset, .unset] []))
    refine own_st (fun _ k => XS.iload X102.here hx rfl (hb hby at_145) rfl k) ?_
    show own_Go _ _ _ _ (T102.setTop (mkF m 147 #[.val (.int u0), .val (.long u1), .second, .val (.long u2), .second, .val (.long (own_inv (-7046029254386353131 : Int64))), .second, .val (.int (0 : Int32)), .val (.int ((((u0.toUInt32 >>> ((14 : Int32) &&& 31).toUInt32).toInt32) &&& (7 : Int32)) - ((((u0.toUInt32 >>> ((14 : Int32) &&& 31).toUInt32).toInt32) &&& (7 : Int32)) / (5 : Int32)) * (5 : Int32))), .val (.ref b81), .val (.ref b92), .val (.ref b101), .unset, .unset, .unset, .unset, .unset] [(.int (0 : Int32))]))
    refine own_st (fun _ k => XS.ifYes X102.here hx rfl (pc0 := 147) (pc' := 163) rfl (hb hby at_147) rfl ((if0 _ _).trans (flt (by decide : ¬ ((0 : Int32) < (0 : Int32)))).2.2.2) (by decide) (by decide) k) ?_
    refine own_st (fun _ k => XS.iload X102.here hx rfl (hb hby at_163) rfl k) ?_
    refine own_st (fun _ k => XS.iconst X102.here hx rfl (hb hby at_165) k) ?_
    show own_Go _ _ _ _ (T102.setTop (mkF m 166 #[.val (.int u0), .val (.long u1), .second, .val (.long u2), .second, .val (.long (own_inv (-7046029254386353131 : Int64))), .second, .val (.int (0 : Int32)), .val (.int ((((u0.toUInt32 >>> ((14 : Int32) &&& 31).toUInt32).toInt32) &&& (7 : Int32)) - ((((u0.toUInt32 >>> ((14 : Int32) &&& 31).toUInt32).toInt32) &&& (7 : Int32)) / (5 : Int32)) * (5 : Int32))), .val (.ref b81), .val (.ref b92), .val (.ref b101), .unset, .unset, .unset, .unset, .unset] [(.int (1 : Int32)), (.int (0 : Int32))]))
    refine own_st (fun _ k => XS.icmpYes X102.here hx rfl (pc0 := 166) (pc' := 182) rfl (hb hby at_166) rfl (flt (by decide : ¬ ((1 : Int32) < (0 : Int32)))).2.2.2 (by decide) (by decide) k) ?_
    refine own_st (fun _ k => XS.iload X102.here hx rfl (hb hby at_182) rfl k) ?_
    refine own_st (fun _ k => XS.iconst X102.here hx rfl (hb hby at_184) k) ?_
    show own_Go _ _ _ _ (T102.setTop (mkF m 185 #[.val (.int u0), .val (.long u1), .second, .val (.long u2), .second, .val (.long (own_inv (-7046029254386353131 : Int64))), .second, .val (.int (0 : Int32)), .val (.int ((((u0.toUInt32 >>> ((14 : Int32) &&& 31).toUInt32).toInt32) &&& (7 : Int32)) - ((((u0.toUInt32 >>> ((14 : Int32) &&& 31).toUInt32).toInt32) &&& (7 : Int32)) / (5 : Int32)) * (5 : Int32))), .val (.ref b81), .val (.ref b92), .val (.ref b101), .unset, .unset, .unset, .unset, .unset] [(.int (2 : Int32)), (.int (0 : Int32))]))
    refine own_st (fun _ k => XS.icmpYes X102.here hx rfl (pc0 := 185) (pc' := 201) rfl (hb hby at_185) rfl (flt (by decide : ¬ ((2 : Int32) < (0 : Int32)))).2.2.2 (by decide) (by decide) k) ?_
    refine own_st (fun _ k => XS.iload X102.here hx rfl (hb hby at_201) rfl k) ?_
    refine own_st (fun _ k => XS.iconst X102.here hx rfl (hb hby at_203) k) ?_
    show own_Go _ _ _ _ (T102.setTop (mkF m 204 #[.val (.int u0), .val (.long u1), .second, .val (.long u2), .second, .val (.long (own_inv (-7046029254386353131 : Int64))), .second, .val (.int (0 : Int32)), .val (.int ((((u0.toUInt32 >>> ((14 : Int32) &&& 31).toUInt32).toInt32) &&& (7 : Int32)) - ((((u0.toUInt32 >>> ((14 : Int32) &&& 31).toUInt32).toInt32) &&& (7 : Int32)) / (5 : Int32)) * (5 : Int32))), .val (.ref b81), .val (.ref b92), .val (.ref b101), .unset, .unset, .unset, .unset, .unset] [(.int (3 : Int32)), (.int (0 : Int32))]))
    refine own_st (fun _ k => XS.icmpYes X102.here hx rfl (pc0 := 204) (pc' := 220) rfl (hb hby at_204) rfl (flt (by decide : ¬ ((3 : Int32) < (0 : Int32)))).2.2.2 (by decide) (by decide) k) ?_
    show own_Go _ _ _ _ (T102.setTop (mkF m 220 #[.val (.int u0), .val (.long u1), .second, .val (.long u2), .second, .val (.long (own_inv (-7046029254386353131 : Int64))), .second, .val (.int (0 : Int32)), .val (.int ((((u0.toUInt32 >>> ((14 : Int32) &&& 31).toUInt32).toInt32) &&& (7 : Int32)) - ((((u0.toUInt32 >>> ((14 : Int32) &&& 31).toUInt32).toInt32) &&& (7 : Int32)) / (5 : Int32)) * (5 : Int32))), .val (.ref b81), .val (.ref b92), .val (.ref b101), .unset, .unset, .unset, .unset, .unset] []))
    rcases own_n5 ((u0.toUInt32 >>> ((14 : Int32) &&& 31).toUInt32).toInt32) with hs128 | hs128 | hs128 | hs128 | hs128
    · skip
      rw [hs128]
      have HT := own_H4 u0 u1 u2
      obtain ⟨ts, tq, es, er, eg0, eg1, eg2, eg3⟩ := own_chkE (own_c00 _ (own_offN u0 0).1 _ (own_offN u0 1).1 _ (own_offN u0 2).1 _ (own_offN u0 3).1)
      have ess : ts = tt := Option.some.inj (es.symm.trans etN)
      rw [ess] at er
      obtain ⟨rr, rf, rz, RQ⟩ := own_stepA HT RR0 (n := 0) (a := 0) (by decide) (by decide) er
      obtain ⟨g0, gf0, ga0_, gb0_⟩ := own_stepG HT RQ (q := 0) (by decide) eg0
      obtain ⟨g1, gf1, ga1_, gb1_⟩ := own_stepG HT RQ (q := 1) (by decide) eg1
      obtain ⟨g2, gf2, ga2_, gb2_⟩ := own_stepG HT RQ (q := 2) (by decide) eg2
      obtain ⟨g3, gf3, ga3_, gb3_⟩ := own_stepG HT RQ (q := 3) (by decide) eg3
      show own_Go _ _ _ _ (T102.setTop (mkF m 220 #[.val (.int u0), .val (.long u1), .second, .val (.long u2), .second, .val (.long (own_inv (-7046029254386353131 : Int64))), .second, .val (.int (0 : Int32)), .val (.int (0 : Int32)), .val (.ref b81), .val (.ref b92), .val (.ref b101), .unset, .unset, .unset, .unset, .unset] []))
      refine own_st (fun _ k => XS.iload X102.here hx rfl (hb hby at_220) rfl k) ?_
      refine own_st (fun _ k => XS.iload X102.here hx rfl (hb hby at_222) rfl k) ?_
      show own_Go _ _ _ _ (T102.setTop (mkF m 224 #[.val (.int u0), .val (.long u1), .second, .val (.long u2), .second, .val (.long (own_inv (-7046029254386353131 : Int64))), .second, .val (.int (0 : Int32)), .val (.int (0 : Int32)), .val (.ref b81), .val (.ref b92), .val (.ref b101), .unset, .unset, .unset, .unset, .unset] [(.int (0 : Int32)), (.int (0 : Int32))]))
      refine own_st (fun _ k => XS.icmpYes X102.here hx rfl (pc0 := 224) (pc' := 235) rfl (hb hby at_224) rfl (flt (by decide : ¬ ((0 : Int32) < (0 : Int32)))).2.1 (by decide) (by decide) k) ?_
      refine own_st (fun _ k => XS.lconst X102.here hx rfl (hb hby at_235) k) ?_
      refine own_st (fun _ k => XS.lstore X102.here hx rfl (hb hby at_236) rfl (l' := #[.val (.int u0), .val (.long u1), .second, .val (.long u2), .second, .val (.long (own_inv (-7046029254386353131 : Int64))), .second, .val (.int (0 : Int32)), .val (.int (0 : Int32)), .val (.ref b81), .val (.ref b92), .val (.ref b101), .val (.long (0 : Int64)), .second, .unset, .unset, .unset]) rfl k) ?_
      refine own_st (fun _ k => XS.aload X102.here hx rfl (hb hby at_238) rfl rfl k) ?_
      refine own_st (fun _ k => XS.aload X102.here hx rfl (hb hby at_240) rfl rfl k) ?_
      refine own_st (fun _ k => XS.iload X102.here hx rfl (hb hby at_242) rfl k) ?_
      show own_Go _ _ _ _ (T102.setTop (mkF m 244 #[.val (.int u0), .val (.long u1), .second, .val (.long u2), .second, .val (.long (own_inv (-7046029254386353131 : Int64))), .second, .val (.int (0 : Int32)), .val (.int (0 : Int32)), .val (.ref b81), .val (.ref b92), .val (.ref b101), .val (.long (0 : Int64)), .second, .unset, .unset, .unset] [(.int (0 : Int32)), (.ref b81), (.ref b101)]))
      obtain ⟨cl129, Ar129, -, Sz129, Nn129, Hs129, -⟩ := id z102_V_b81
      have hin129 : ¬ ((0 : Int32) < 0 ∨ cl129.slots.size ≤ ((0 : Int32)).toNatClampNeg) := inb_of Sz129 ⟨(by decide : ¬ ((0 : Int32) < (0 : Int32))), (by decide : (0 : Int32) < (5 : Int32))⟩
      have hat129 : cl129.slots[((0 : Int32)).toNatClampNeg]? = some (.long (own_kf u0 u1 0)) := Hs129.at hin129 rfl
      refine own_st (X102.laload hx (j := (0 : Int32)) (v := (.long (own_kf u0 u1 0))) Ar129.1 (State.isArrayOf_alike hZ.alike Ar129.2.1) Ar129.2.2 hin129 hat129 (g := (mkF m 244 #[.val (.int u0), .val (.long u1), .second, .val (.long u2), .second, .val (.long (own_inv (-7046029254386353131 : Int64))), .second, .val (.int (0 : Int32)), .val (.int (0 : Int32)), .val (.ref b81), .val (.ref b92), .val (.ref b101), .val (.long (0 : Int64)), .second, .unset, .unset, .unset] [(.int (0 : Int32)), (.ref b81), (.ref b101)])) rfl rfl (hb hby at_244)) ?_
      show own_Go _ _ _ _ (T102.setTop (mkF m 245 #[.val (.int u0), .val (.long u1), .second, .val (.long u2), .second, .val (.long (own_inv (-7046029254386353131 : Int64))), .second, .val (.int (0 : Int32)), .val (.int (0 : Int32)), .val (.ref b81), .val (.ref b92), .val (.ref b101), .val (.long (0 : Int64)), .second, .unset, .unset, .unset] [(.long (own_kf u0 u1 0)), (.ref b101)]))
      obtain ⟨cq130, kq130, q130a, q130b, q130c⟩ := isOf hZ rfl z102_E_b101
      obtain ⟨_, _, ⟨T130, L130, k130, n130⟩, -, X130, ⟨Lc130, hQ130, l130, y130, z130⟩, st130⟩ := X102.virtualBack hx (y := (⟨"quillvax/store/LongMap", "remove", "(J)J"⟩ : MethodName)) (z := (⟨"quillvax/store/LongMap", "remove", "(J)J"⟩ : MethodName)) hown (mvT hZ (hw _ (List.mem_of_getElem? (i := 34) rfl))) (mvT hZ (hw _ (List.mem_of_getElem? (i := 35) rfl))) (notFace_of_selects (args := #[]) (mvT hZ (hw _ (List.mem_of_getElem? (i := 37) rfl)))) (mvT hZ (hw _ (List.mem_of_getElem? (i := 37) rfl))) (mvT hZ (hw _ (List.mem_of_getElem? (i := 36) rfl))) (by decide) (backOf (W := 0) (rm7a l Z a0 hw [] b101 ka102 wa102 kk102 kw102 own_z own_z (own_kf u0 u1 0) rr T102.heap n0 Z102 z102_E_b101 Fq102_keys Fq102_values Fq102_slotBits Vk102 Vw102 rf rz) hZ (hw _ (List.mem_of_getElem? (i := 38) rfl)) (hw _ (List.mem_of_getElem? (i := 16) rfl)) (by decide) (by decide)) q130a q130c (g := (mkF m 245 #[.val (.int u0), .val (.long u1), .second, .val (.long u2), .second, .val (.long (own_inv (-7046029254386353131 : Int64))), .second, .val (.int (0 : Int32)), .val (.int (0 : Int32)), .val (.ref b81), .val (.ref b92), .val (.ref b101), .val (.long (0 : Int64)), .second, .unset, .unset, .unset] [(.long (own_kf u0 u1 0)), (.ref b101)])) rfl (by rw [hml]; rfl) (Steps.refl _) (argsL := [(.long (own_kf u0 u1 0))]) (rest := []) (lenOf own_pd0 rfl) rfl (by show 2 * 0 + _ ≤ _; exact Nat.le_of_eq rfl) (hb hby at_245) (fun _ _ => ⟨rfl, rfl, (by decide : 5 + 0 ≤ _), (by decide : 45 + 0 ≤ _)⟩)
      dsimp only [Pt.U, Pt.locs, Pt.cells, Pt.slots] at X130 l130 y130 z130 st130 hQ130
      rw [l130, y130, z130] at X130
      obtain ⟨rfl, Nq130, eq130⟩ := hQ130
      have N130 := Fr.app N102 Nq130
      refine own_tr st130 ?_
      refine own_st (fun _ k => XS.lstore X130.here hx rfl (hb hby at_248) rfl (l' := #[.val (.int u0), .val (.long u1), .second, .val (.long u2), .second, .val (.long (own_inv (-7046029254386353131 : Int64))), .second, .val (.int (0 : Int32)), .val (.int (0 : Int32)), .val (.ref b81), .val (.ref b92), .val (.ref b101), .val (.long (0 : Int64)), .second, .val (.long (0 : Int64)), .second, .unset]) rfl k) ?_
      refine own_st (fun _ k => XS.lload X130.here hx rfl (hb hby at_250) rfl k) ?_
      refine own_st (fun _ k => XS.lload X130.here hx rfl (hb hby at_252) rfl k) ?_
      show own_Go _ _ _ _ (T130.setTop (mkF m 254 #[.val (.int u0), .val (.long u1), .second, .val (.long u2), .second, .val (.long (own_inv (-7046029254386353131 : Int64))), .second, .val (.int (0 : Int32)), .val (.int (0 : Int32)), .val (.ref b81), .val (.ref b92), .val (.ref b101), .val (.long (0 : Int64)), .second, .val (.long (0 : Int64)), .second, .unset] [(.long (0 : Int64)), (.long (0 : Int64))]))
      refine own_st (fun _ k => XS.lcmp X130.here hx rfl (hb hby at_254) rfl k) ?_
      show own_Go _ _ _ _ (T130.setTop (mkF m 255 #[.val (.int u0), .val (.long u1), .second, .val (.long u2), .second, .val (.long (own_inv (-7046029254386353131 : Int64))), .second, .val (.int (0 : Int32)), .val (.int (0 : Int32)), .val (.ref b81), .val (.ref b92), .val (.ref b101), .val (.long (0 : Int64)), .second, .val (.long (0 : Int64)), .second, .unset] [(.int (lcmpW (0 : Int64) (0 : Int64)))]))
      rw [show (lcmpW (0 : Int64) (0 : Int64)) = (0 : Int32) from by decide]
      show own_Go _ _ _ _ (T130.setTop (mkF m 255 #[.val (.int u0), .val (.long u1), .second, .val (.long u2), .second, .val (.long (own_inv (-7046029254386353131 : Int64))), .second, .val (.int (0 : Int32)), .val (.int (0 : Int32)), .val (.ref b81), .val (.ref b92), .val (.ref b101), .val (.long (0 : Int64)), .second, .val (.long (0 : Int64)), .second, .unset] [(.int (0 : Int32))]))
      refine own_st (fun _ k => XS.ifNo X130.here hx rfl (hb hby at_255) rfl ((if0 _ _).trans (teq (by decide : ((0 : Int32) = (0 : Int32)))).2) k) ?_
      refine own_st (fun _ k => XS.iconst X130.here hx rfl (hb hby at_258) k) ?_
      refine own_st (fun _ k => XS.goto X130.here hx rfl (pc0 := 259) (pc' := 263) rfl (hb hby at_259) (by decide) (by decide) k) ?_
      refine own_st (fun _ k => XS.istore X130.here hx rfl (hb hby at_263) rfl (l' := #[.val (.int u0), .val (.long u1), .second, .val (.long u2), .second, .val (.long (own_inv (-7046029254386353131 : Int64))), .second, .val (.int (0 : Int32)), .val (.int (0 : Int32)), .val (.ref b81), .val (.ref b92), .val (.ref b101), .val (.long (0 : Int64)), .second, .val (.long (0 : Int64)), .second, .val (.int (1 : Int32))]) rfl k) ?_
      show own_Go _ _ _ _ (T130.setTop (mkF m 265 #[.val (.int u0), .val (.long u1), .second, .val (.long u2), .second, .val (.long (own_inv (-7046029254386353131 : Int64))), .second, .val (.int (0 : Int32)), .val (.int (0 : Int32)), .val (.ref b81), .val (.ref b92), .val (.ref b101), .val (.long (0 : Int64)), .second, .val (.long (0 : Int64)), .second, .val (.int (1 : Int32))] []))
      refine TAIL _ _ _ _ _ _ g0 g1 g2 g3 _ _ _ _ X130 eq130 Vk102 Vw102 z102_E_b101 Fq102_keys Fq102_values Fq102_slotBits z102_V_b81 z102_V_b92 N130 Z102 gf0 (by rw [if_neg (by decide)]; exact ga0_ (by decide)) gf1 (by rw [if_neg (by decide)]; exact ga1_ (by decide)) gf2 (by rw [if_neg (by decide)]; exact ga2_ (by decide)) gf3 (by rw [if_neg (by decide)]; exact ga3_ (by decide)) ?_
      intro TM lcM XM NM
      show own_Go _ _ _ _ (TM.setTop (mkF m 446 #[.val (.int u0), .val (.long u1), .second, .val (.long u2), .second, .val (.long (own_inv (-7046029254386353131 : Int64))), .second, .val (.int (0 : Int32)), .val (.int (0 : Int32)), .val (.ref b81), .val (.ref b92), .val (.ref b101), .val (.long (0 : Int64)), .second, .val (.long (0 : Int64)), .second, .val (.int (1 : Int32))] [(.int (1 : Int32))]))
      obtain ⟨fs, hr, hrun, hended, hW, hsame⟩ := XM.leave (v := some (.int (1 : Int32))) (fun h => by rw [Bd.returns] at h; cases h)
      refine own_out (retN XM hx (t := .boolean) Bd.returns (by simp) (hb hby at_446) hr) ⟨hrun, hended, _, _, rfl, ?_, ⟨_, rfl⟩, hW, hsame.mono (by decide) (by decide)⟩
      show Q0 Z u0 u1 u2 h0 n0 _ TM.heap _
      exact ⟨rfl, NM⟩
    · skip
      rw [hs128]
      have HT := own_H4 u0 u1 u2
      obtain ⟨ts, tq, es, er, eg0, eg1, eg2, eg3⟩ := own_chkE (own_c01 _ (own_offN u0 0).1 _ (own_offN u0 1).1 _ (own_offN u0 2).1 _ (own_offN u0 3).1)
      have ess : ts = tt := Option.some.inj (es.symm.trans etN)
      rw [ess] at er
      obtain ⟨rr, rf, rz, RQ⟩ := own_stepA HT RR0 (n := 0) (a := 1) (by decide) (by decide) er
      obtain ⟨g0, gf0, ga0_, gb0_⟩ := own_stepG HT RQ (q := 0) (by decide) eg0
      obtain ⟨g1, gf1, ga1_, gb1_⟩ := own_stepG HT RQ (q := 1) (by decide) eg1
      obtain ⟨g2, gf2, ga2_, gb2_⟩ := own_stepG HT RQ (q := 2) (by decide) eg2
      obtain ⟨g3, gf3, ga3_, gb3_⟩ := own_stepG HT RQ (q := 3) (by decide) eg3
      show own_Go _ _ _ _ (T102.setTop (mkF m 220 #[.val (.int u0), .val (.long u1), .second, .val (.long u2), .second, .val (.long (own_inv (-7046029254386353131 : Int64))), .second, .val (.int (0 : Int32)), .val (.int (1 : Int32)), .val (.ref b81), .val (.ref b92), .val (.ref b101), .unset, .unset, .unset, .unset, .unset] []))
      refine own_st (fun _ k => XS.iload X102.here hx rfl (hb hby at_220) rfl k) ?_
      refine own_st (fun _ k => XS.iload X102.here hx rfl (hb hby at_222) rfl k) ?_
      show own_Go _ _ _ _ (T102.setTop (mkF m 224 #[.val (.int u0), .val (.long u1), .second, .val (.long u2), .second, .val (.long (own_inv (-7046029254386353131 : Int64))), .second, .val (.int (0 : Int32)), .val (.int (1 : Int32)), .val (.ref b81), .val (.ref b92), .val (.ref b101), .unset, .unset, .unset, .unset, .unset] [(.int (0 : Int32)), (.int (1 : Int32))]))
      refine own_st (fun _ k => XS.icmpYes X102.here hx rfl (pc0 := 224) (pc' := 235) rfl (hb hby at_224) rfl (flt (by decide : ¬ ((1 : Int32) < (0 : Int32)))).2.1 (by decide) (by decide) k) ?_
      refine own_st (fun _ k => XS.lconst X102.here hx rfl (hb hby at_235) k) ?_
      refine own_st (fun _ k => XS.lstore X102.here hx rfl (hb hby at_236) rfl (l' := #[.val (.int u0), .val (.long u1), .second, .val (.long u2), .second, .val (.long (own_inv (-7046029254386353131 : Int64))), .second, .val (.int (0 : Int32)), .val (.int (1 : Int32)), .val (.ref b81), .val (.ref b92), .val (.ref b101), .val (.long (0 : Int64)), .second, .unset, .unset, .unset]) rfl k) ?_
      refine own_st (fun _ k => XS.aload X102.here hx rfl (hb hby at_238) rfl rfl k) ?_
      refine own_st (fun _ k => XS.aload X102.here hx rfl (hb hby at_240) rfl rfl k) ?_
      refine own_st (fun _ k => XS.iload X102.here hx rfl (hb hby at_242) rfl k) ?_
      show own_Go _ _ _ _ (T102.setTop (mkF m 244 #[.val (.int u0), .val (.long u1), .second, .val (.long u2), .second, .val (.long (own_inv (-7046029254386353131 : Int64))), .second, .val (.int (0 : Int32)), .val (.int (1 : Int32)), .val (.ref b81), .val (.ref b92), .val (.ref b101), .val (.long (0 : Int64)), .second, .unset, .unset, .unset] [(.int (1 : Int32)), (.ref b81), (.ref b101)]))
      obtain ⟨cl131, Ar131, -, Sz131, Nn131, Hs131, -⟩ := id z102_V_b81
      have hin131 : ¬ ((1 : Int32) < 0 ∨ cl131.slots.size ≤ ((1 : Int32)).toNatClampNeg) := inb_of Sz131 ⟨(by decide : ¬ ((1 : Int32) < (0 : Int32))), (by decide : (1 : Int32) < (5 : Int32))⟩
      have hat131 : cl131.slots[((1 : Int32)).toNatClampNeg]? = some (.long (own_kf u0 u1 1)) := Hs131.at hin131 rfl
      refine own_st (X102.laload hx (j := (1 : Int32)) (v := (.long (own_kf u0 u1 1))) Ar131.1 (State.isArrayOf_alike hZ.alike Ar131.2.1) Ar131.2.2 hin131 hat131 (g := (mkF m 244 #[.val (.int u0), .val (.long u1), .second, .val (.long u2), .second, .val (.long (own_inv (-7046029254386353131 : Int64))), .second, .val (.int (0 : Int32)), .val (.int (1 : Int32)), .val (.ref b81), .val (.ref b92), .val (.ref b101), .val (.long (0 : Int64)), .second, .unset, .unset, .unset] [(.int (1 : Int32)), (.ref b81), (.ref b101)])) rfl rfl (hb hby at_244)) ?_
      show own_Go _ _ _ _ (T102.setTop (mkF m 245 #[.val (.int u0), .val (.long u1), .second, .val (.long u2), .second, .val (.long (own_inv (-7046029254386353131 : Int64))), .second, .val (.int (0 : Int32)), .val (.int (1 : Int32)), .val (.ref b81), .val (.ref b92), .val (.ref b101), .val (.long (0 : Int64)), .second, .unset, .unset, .unset] [(.long (own_kf u0 u1 1)), (.ref b101)]))
      obtain ⟨cq132, kq132, q132a, q132b, q132c⟩ := isOf hZ rfl z102_E_b101
      obtain ⟨_, _, ⟨T132, L132, k132, n132⟩, -, X132, ⟨Lc132, hQ132, l132, y132, z132⟩, st132⟩ := X102.virtualBack hx (y := (⟨"quillvax/store/LongMap", "remove", "(J)J"⟩ : MethodName)) (z := (⟨"quillvax/store/LongMap", "remove", "(J)J"⟩ : MethodName)) hown (mvT hZ (hw _ (List.mem_of_getElem? (i := 34) rfl))) (mvT hZ (hw _ (List.mem_of_getElem? (i := 35) rfl))) (notFace_of_selects (args := #[]) (mvT hZ (hw _ (List.mem_of_getElem? (i := 37) rfl)))) (mvT hZ (hw _ (List.mem_of_getElem? (i := 37) rfl))) (mvT hZ (hw _ (List.mem_of_getElem? (i := 36) rfl))) (by decide) (backOf (W := 0) (rm7a l Z a0 hw [] b101 ka102 wa102 kk102 kw102 own_z own_z (own_kf u0 u1 1) rr T102.heap n0 Z102 z102_E_b101 Fq102_keys Fq102_values Fq102_slotBits Vk102 Vw102 rf rz) hZ (hw _ (List.mem_of_getElem? (i := 38) rfl)) (hw _ (List.mem_of_getElem? (i := 16) rfl)) (by decide) (by decide)) q132a q132c (g := (mkF m 245 #[.val (.int u0), .val (.long u1), .second, .val (.long u2), .second, .val (.long (own_inv (-7046029254386353131 : Int64))), .second, .val (.int (0 : Int32)), .val (.int (1 : Int32)), .val (.ref b81), .val (.ref b92), .val (.ref b101), .val (.long (0 : Int64)), .second, .unset, .unset, .unset] [(.long (own_kf u0 u1 1)), (.ref b101)])) rfl (by rw [hml]; rfl) (Steps.refl _) (argsL := [(.long (own_kf u0 u1 1))]) (rest := []) (lenOf own_pd0 rfl) rfl (by show 2 * 0 + _ ≤ _; exact Nat.le_of_eq rfl) (hb hby at_245) (fun _ _ => ⟨rfl, rfl, (by decide : 5 + 0 ≤ _), (by decide : 45 + 0 ≤ _)⟩)
      dsimp only [Pt.U, Pt.locs, Pt.cells, Pt.slots] at X132 l132 y132 z132 st132 hQ132
      rw [l132, y132, z132] at X132
      obtain ⟨rfl, Nq132, eq132⟩ := hQ132
      have N132 := Fr.app N102 Nq132
      refine own_tr st132 ?_
      refine own_st (fun _ k => XS.lstore X132.here hx rfl (hb hby at_248) rfl (l' := #[.val (.int u0), .val (.long u1), .second, .val (.long u2), .second, .val (.long (own_inv (-7046029254386353131 : Int64))), .second, .val (.int (0 : Int32)), .val (.int (1 : Int32)), .val (.ref b81), .val (.ref b92), .val (.ref b101), .val (.long (0 : Int64)), .second, .val (.long (0 : Int64)), .second, .unset]) rfl k) ?_
      refine own_st (fun _ k => XS.lload X132.here hx rfl (hb hby at_250) rfl k) ?_
      refine own_st (fun _ k => XS.lload X132.here hx rfl (hb hby at_252) rfl k) ?_
      show own_Go _ _ _ _ (T132.setTop (mkF m 254 #[.val (.int u0), .val (.long u1), .second, .val (.long u2), .second, .val (.long (own_inv (-7046029254386353131 : Int64))), .second, .val (.int (0 : Int32)), .val (.int (1 : Int32)), .val (.ref b81), .val (.ref b92), .val (.ref b101), .val (.long (0 : Int64)), .second, .val (.long (0 : Int64)), .second, .unset] [(.long (0 : Int64)), (.long (0 : Int64))]))
      refine own_st (fun _ k => XS.lcmp X132.here hx rfl (hb hby at_254) rfl k) ?_
      show own_Go _ _ _ _ (T132.setTop (mkF m 255 #[.val (.int u0), .val (.long u1), .second, .val (.long u2), .second, .val (.long (own_inv (-7046029254386353131 : Int64))), .second, .val (.int (0 : Int32)), .val (.int (1 : Int32)), .val (.ref b81), .val (.ref b92), .val (.ref b101), .val (.long (0 : Int64)), .second, .val (.long (0 : Int64)), .second, .unset] [(.int (lcmpW (0 : Int64) (0 : Int64)))]))
      rw [show (lcmpW (0 : Int64) (0 : Int64)) = (0 : Int32) from by decide]
      show own_Go _ _ _ _ (T132.setTop (mkF m 255 #[.val (.int u0), .val (.long u1), .second, .val (.long u2), .second, .val (.long (own_inv (-7046029254386353131 : Int64))), .second, .val (.int (0 : Int32)), .val (.int (1 : Int32)), .val (.ref b81), .val (.ref b92), .val (.ref b101), .val (.long (0 : Int64)), .second, .val (.long (0 : Int64)), .second, .unset] [(.int (0 : Int32))]))
      refine own_st (fun _ k => XS.ifNo X132.here hx rfl (hb hby at_255) rfl ((if0 _ _).trans (teq (by decide : ((0 : Int32) = (0 : Int32)))).2) k) ?_
      refine own_st (fun _ k => XS.iconst X132.here hx rfl (hb hby at_258) k) ?_
      refine own_st (fun _ k => XS.goto X132.here hx rfl (pc0 := 259) (pc' := 263) rfl (hb hby at_259) (by decide) (by decide) k) ?_
      refine own_st (fun _ k => XS.istore X132.here hx rfl (hb hby at_263) rfl (l' := #[.val (.int u0), .val (.long u1), .second, .val (.long u2), .second, .val (.long (own_inv (-7046029254386353131 : Int64))), .second, .val (.int (0 : Int32)), .val (.int (1 : Int32)), .val (.ref b81), .val (.ref b92), .val (.ref b101), .val (.long (0 : Int64)), .second, .val (.long (0 : Int64)), .second, .val (.int (1 : Int32))]) rfl k) ?_
      show own_Go _ _ _ _ (T132.setTop (mkF m 265 #[.val (.int u0), .val (.long u1), .second, .val (.long u2), .second, .val (.long (own_inv (-7046029254386353131 : Int64))), .second, .val (.int (0 : Int32)), .val (.int (1 : Int32)), .val (.ref b81), .val (.ref b92), .val (.ref b101), .val (.long (0 : Int64)), .second, .val (.long (0 : Int64)), .second, .val (.int (1 : Int32))] []))
      refine TAIL _ _ _ _ _ _ g0 g1 g2 g3 _ _ _ _ X132 eq132 Vk102 Vw102 z102_E_b101 Fq102_keys Fq102_values Fq102_slotBits z102_V_b81 z102_V_b92 N132 Z102 gf0 (by rw [if_neg (by decide)]; exact ga0_ (by decide)) gf1 (by rw [if_neg (by decide)]; exact ga1_ (by decide)) gf2 (by rw [if_neg (by decide)]; exact ga2_ (by decide)) gf3 (by rw [if_neg (by decide)]; exact ga3_ (by decide)) ?_
      intro TM lcM XM NM
      show own_Go _ _ _ _ (TM.setTop (mkF m 446 #[.val (.int u0), .val (.long u1), .second, .val (.long u2), .second, .val (.long (own_inv (-7046029254386353131 : Int64))), .second, .val (.int (0 : Int32)), .val (.int (1 : Int32)), .val (.ref b81), .val (.ref b92), .val (.ref b101), .val (.long (0 : Int64)), .second, .val (.long (0 : Int64)), .second, .val (.int (1 : Int32))] [(.int (1 : Int32))]))
      obtain ⟨fs, hr, hrun, hended, hW, hsame⟩ := XM.leave (v := some (.int (1 : Int32))) (fun h => by rw [Bd.returns] at h; cases h)
      refine own_out (retN XM hx (t := .boolean) Bd.returns (by simp) (hb hby at_446) hr) ⟨hrun, hended, _, _, rfl, ?_, ⟨_, rfl⟩, hW, hsame.mono (by decide) (by decide)⟩
      show Q0 Z u0 u1 u2 h0 n0 _ TM.heap _
      exact ⟨rfl, NM⟩
    · skip
      rw [hs128]
      have HT := own_H4 u0 u1 u2
      obtain ⟨ts, tq, es, er, eg0, eg1, eg2, eg3⟩ := own_chkE (own_c02 _ (own_offN u0 0).1 _ (own_offN u0 1).1 _ (own_offN u0 2).1 _ (own_offN u0 3).1)
      have ess : ts = tt := Option.some.inj (es.symm.trans etN)
      rw [ess] at er
      obtain ⟨rr, rf, rz, RQ⟩ := own_stepA HT RR0 (n := 0) (a := 2) (by decide) (by decide) er
      obtain ⟨g0, gf0, ga0_, gb0_⟩ := own_stepG HT RQ (q := 0) (by decide) eg0
      obtain ⟨g1, gf1, ga1_, gb1_⟩ := own_stepG HT RQ (q := 1) (by decide) eg1
      obtain ⟨g2, gf2, ga2_, gb2_⟩ := own_stepG HT RQ (q := 2) (by decide) eg2
      obtain ⟨g3, gf3, ga3_, gb3_⟩ := own_stepG HT RQ (q := 3) (by decide) eg3
      show own_Go _ _ _ _ (T102.setTop (mkF m 220 #[.val (.int u0), .val (.long u1), .second, .val (.long u2), .second, .val (.long (own_inv (-7046029254386353131 : Int64))), .second, .val (.int (0 : Int32)), .val (.int (2 : Int32)), .val (.ref b81), .val (.ref b92), .val (.ref b101), .unset, .unset, .unset, .unset, .unset] []))
      refine own_st (fun _ k => XS.iload X102.here hx rfl (hb hby at_220) rfl k) ?_
      refine own_st (fun _ k => XS.iload X102.here hx rfl (hb hby at_222) rfl k) ?_
      show own_Go _ _ _ _ (T102.setTop (mkF m 224 #[.val (.int u0), .val (.long u1), .second, .val (.long u2), .second, .val (.long (own_inv (-7046029254386353131 : Int64))), .second, .val (.int (0 : Int32)), .val (.int (2 : Int32)), .val (.ref b81), .val (.ref b92), .val (.ref b101), .unset, .unset, .unset, .unset, .unset] [(.int (0 : Int32)), (.int (2 : Int32))]))
      refine own_st (fun _ k => XS.icmpYes X102.here hx rfl (pc0 := 224) (pc' := 235) rfl (hb hby at_224) rfl (flt (by decide : ¬ ((2 : Int32) < (0 : Int32)))).2.1 (by decide) (by decide) k) ?_
      refine own_st (fun _ k => XS.lconst X102.here hx rfl (hb hby at_235) k) ?_
      refine own_st (fun _ k => XS.lstore X102.here hx rfl (hb hby at_236) rfl (l' := #[.val (.int u0), .val (.long u1), .second, .val (.long u2), .second, .val (.long (own_inv (-7046029254386353131 : Int64))), .second, .val (.int (0 : Int32)), .val (.int (2 : Int32)), .val (.ref b81), .val (.ref b92), .val (.ref b101), .val (.long (0 : Int64)), .second, .unset, .unset, .unset]) rfl k) ?_
      refine own_st (fun _ k => XS.aload X102.here hx rfl (hb hby at_238) rfl rfl k) ?_
      refine own_st (fun _ k => XS.aload X102.here hx rfl (hb hby at_240) rfl rfl k) ?_
      refine own_st (fun _ k => XS.iload X102.here hx rfl (hb hby at_242) rfl k) ?_
      show own_Go _ _ _ _ (T102.setTop (mkF m 244 #[.val (.int u0), .val (.long u1), .second, .val (.long u2), .second, .val (.long (own_inv (-7046029254386353131 : Int64))), .second, .val (.int (0 : Int32)), .val (.int (2 : Int32)), .val (.ref b81), .val (.ref b92), .val (.ref b101), .val (.long (0 : Int64)), .second, .unset, .unset, .unset] [(.int (2 : Int32)), (.ref b81), (.ref b101)]))
      obtain ⟨cl133, Ar133, -, Sz133, Nn133, Hs133, -⟩ := id z102_V_b81
      have hin133 : ¬ ((2 : Int32) < 0 ∨ cl133.slots.size ≤ ((2 : Int32)).toNatClampNeg) := inb_of Sz133 ⟨(by decide : ¬ ((2 : Int32) < (0 : Int32))), (by decide : (2 : Int32) < (5 : Int32))⟩
      have hat133 : cl133.slots[((2 : Int32)).toNatClampNeg]? = some (.long (own_kf u0 u1 2)) := Hs133.at hin133 rfl
      refine own_st (X102.laload hx (j := (2 : Int32)) (v := (.long (own_kf u0 u1 2))) Ar133.1 (State.isArrayOf_alike hZ.alike Ar133.2.1) Ar133.2.2 hin133 hat133 (g := (mkF m 244 #[.val (.int u0), .val (.long u1), .second, .val (.long u2), .second, .val (.long (own_inv (-7046029254386353131 : Int64))), .second, .val (.int (0 : Int32)), .val (.int (2 : Int32)), .val (.ref b81), .val (.ref b92), .val (.ref b101), .val (.long (0 : Int64)), .second, .unset, .unset, .unset] [(.int (2 : Int32)), (.ref b81), (.ref b101)])) rfl rfl (hb hby at_244)) ?_
      show own_Go _ _ _ _ (T102.setTop (mkF m 245 #[.val (.int u0), .val (.long u1), .second, .val (.long u2), .second, .val (.long (own_inv (-7046029254386353131 : Int64))), .second, .val (.int (0 : Int32)), .val (.int (2 : Int32)), .val (.ref b81), .val (.ref b92), .val (.ref b101), .val (.long (0 : Int64)), .second, .unset, .unset, .unset] [(.long (own_kf u0 u1 2)), (.ref b101)]))
      obtain ⟨cq134, kq134, q134a, q134b, q134c⟩ := isOf hZ rfl z102_E_b101
      obtain ⟨_, _, ⟨T134, L134, k134, n134⟩, -, X134, ⟨Lc134, hQ134, l134, y134, z134⟩, st134⟩ := X102.virtualBack hx (y := (⟨"quillvax/store/LongMap", "remove", "(J)J"⟩ : MethodName)) (z := (⟨"quillvax/store/LongMap", "remove", "(J)J"⟩ : MethodName)) hown (mvT hZ (hw _ (List.mem_of_getElem? (i := 34) rfl))) (mvT hZ (hw _ (List.mem_of_getElem? (i := 35) rfl))) (notFace_of_selects (args := #[]) (mvT hZ (hw _ (List.mem_of_getElem? (i := 37) rfl)))) (mvT hZ (hw _ (List.mem_of_getElem? (i := 37) rfl))) (mvT hZ (hw _ (List.mem_of_getElem? (i := 36) rfl))) (by decide) (backOf (W := 0) (rm7a l Z a0 hw [] b101 ka102 wa102 kk102 kw102 own_z own_z (own_kf u0 u1 2) rr T102.heap n0 Z102 z102_E_b101 Fq102_keys Fq102_values Fq102_slotBits Vk102 Vw102 rf rz) hZ (hw _ (List.mem_of_getElem? (i := 38) rfl)) (hw _ (List.mem_of_getElem? (i := 16) rfl)) (by decide) (by decide)) q134a q134c (g := (mkF m 245 #[.val (.int u0), .val (.long u1), .second, .val (.long u2), .second, .val (.long (own_inv (-7046029254386353131 : Int64))), .second, .val (.int (0 : Int32)), .val (.int (2 : Int32)), .val (.ref b81), .val (.ref b92), .val (.ref b101), .val (.long (0 : Int64)), .second, .unset, .unset, .unset] [(.long (own_kf u0 u1 2)), (.ref b101)])) rfl (by rw [hml]; rfl) (Steps.refl _) (argsL := [(.long (own_kf u0 u1 2))]) (rest := []) (lenOf own_pd0 rfl) rfl (by show 2 * 0 + _ ≤ _; exact Nat.le_of_eq rfl) (hb hby at_245) (fun _ _ => ⟨rfl, rfl, (by decide : 5 + 0 ≤ _), (by decide : 45 + 0 ≤ _)⟩)
      dsimp only [Pt.U, Pt.locs, Pt.cells, Pt.slots] at X134 l134 y134 z134 st134 hQ134
      rw [l134, y134, z134] at X134
      obtain ⟨rfl, Nq134, eq134⟩ := hQ134
      have N134 := Fr.app N102 Nq134
      refine own_tr st134 ?_
      refine own_st (fun _ k => XS.lstore X134.here hx rfl (hb hby at_248) rfl (l' := #[.val (.int u0), .val (.long u1), .second, .val (.long u2), .second, .val (.long (own_inv (-7046029254386353131 : Int64))), .second, .val (.int (0 : Int32)), .val (.int (2 : Int32)), .val (.ref b81), .val (.ref b92), .val (.ref b101), .val (.long (0 : Int64)), .second, .val (.long (0 : Int64)), .second, .unset]) rfl k) ?_
      refine own_st (fun _ k => XS.lload X134.here hx rfl (hb hby at_250) rfl k) ?_
      refine own_st (fun _ k => XS.lload X134.here hx rfl (hb hby at_252) rfl k) ?_
      show own_Go _ _ _ _ (T134.setTop (mkF m 254 #[.val (.int u0), .val (.long u1), .second, .val (.long u2), .second, .val (.long (own_inv (-7046029254386353131 : Int64))), .second, .val (.int (0 : Int32)), .val (.int (2 : Int32)), .val (.ref b81), .val (.ref b92), .val (.ref b101), .val (.long (0 : Int64)), .second, .val (.long (0 : Int64)), .second, .unset] [(.long (0 : Int64)), (.long (0 : Int64))]))
      refine own_st (fun _ k => XS.lcmp X134.here hx rfl (hb hby at_254) rfl k) ?_
      show own_Go _ _ _ _ (T134.setTop (mkF m 255 #[.val (.int u0), .val (.long u1), .second, .val (.long u2), .second, .val (.long (own_inv (-7046029254386353131 : Int64))), .second, .val (.int (0 : Int32)), .val (.int (2 : Int32)), .val (.ref b81), .val (.ref b92), .val (.ref b101), .val (.long (0 : Int64)), .second, .val (.long (0 : Int64)), .second, .unset] [(.int (lcmpW (0 : Int64) (0 : Int64)))]))
      rw [show (lcmpW (0 : Int64) (0 : Int64)) = (0 : Int32) from by decide]
      show own_Go _ _ _ _ (T134.setTop (mkF m 255 #[.val (.int u0), .val (.long u1), .second, .val (.long u2), .second, .val (.long (own_inv (-7046029254386353131 : Int64))), .second, .val (.int (0 : Int32)), .val (.int (2 : Int32)), .val (.ref b81), .val (.ref b92), .val (.ref b101), .val (.long (0 : Int64)), .second, .val (.long (0 : Int64)), .second, .unset] [(.int (0 : Int32))]))
      refine own_st (fun _ k => XS.ifNo X134.here hx rfl (hb hby at_255) rfl ((if0 _ _).trans (teq (by decide : ((0 : Int32) = (0 : Int32)))).2) k) ?_
      refine own_st (fun _ k => XS.iconst X134.here hx rfl (hb hby at_258) k) ?_
      refine own_st (fun _ k => XS.goto X134.here hx rfl (pc0 := 259) (pc' := 263) rfl (hb hby at_259) (by decide) (by decide) k) ?_
      refine own_st (fun _ k => XS.istore X134.here hx rfl (hb hby at_263) rfl (l' := #[.val (.int u0), .val (.long u1), .second, .val (.long u2), .second, .val (.long (own_inv (-7046029254386353131 : Int64))), .second, .val (.int (0 : Int32)), .val (.int (2 : Int32)), .val (.ref b81), .val (.ref b92), .val (.ref b101), .val (.long (0 : Int64)), .second, .val (.long (0 : Int64)), .second, .val (.int (1 : Int32))]) rfl k) ?_
      show own_Go _ _ _ _ (T134.setTop (mkF m 265 #[.val (.int u0), .val (.long u1), .second, .val (.long u2), .second, .val (.long (own_inv (-7046029254386353131 : Int64))), .second, .val (.int (0 : Int32)), .val (.int (2 : Int32)), .val (.ref b81), .val (.ref b92), .val (.ref b101), .val (.long (0 : Int64)), .second, .val (.long (0 : Int64)), .second, .val (.int (1 : Int32))] []))
      refine TAIL _ _ _ _ _ _ g0 g1 g2 g3 _ _ _ _ X134 eq134 Vk102 Vw102 z102_E_b101 Fq102_keys Fq102_values Fq102_slotBits z102_V_b81 z102_V_b92 N134 Z102 gf0 (by rw [if_neg (by decide)]; exact ga0_ (by decide)) gf1 (by rw [if_neg (by decide)]; exact ga1_ (by decide)) gf2 (by rw [if_neg (by decide)]; exact ga2_ (by decide)) gf3 (by rw [if_neg (by decide)]; exact ga3_ (by decide)) ?_
      intro TM lcM XM NM
      show own_Go _ _ _ _ (TM.setTop (mkF m 446 #[.val (.int u0), .val (.long u1), .second, .val (.long u2), .second, .val (.long (own_inv (-7046029254386353131 : Int64))), .second, .val (.int (0 : Int32)), .val (.int (2 : Int32)), .val (.ref b81), .val (.ref b92), .val (.ref b101), .val (.long (0 : Int64)), .second, .val (.long (0 : Int64)), .second, .val (.int (1 : Int32))] [(.int (1 : Int32))]))
      obtain ⟨fs, hr, hrun, hended, hW, hsame⟩ := XM.leave (v := some (.int (1 : Int32))) (fun h => by rw [Bd.returns] at h; cases h)
      refine own_out (retN XM hx (t := .boolean) Bd.returns (by simp) (hb hby at_446) hr) ⟨hrun, hended, _, _, rfl, ?_, ⟨_, rfl⟩, hW, hsame.mono (by decide) (by decide)⟩
      show Q0 Z u0 u1 u2 h0 n0 _ TM.heap _
      exact ⟨rfl, NM⟩
    · skip
      rw [hs128]
      have HT := own_H4 u0 u1 u2
      obtain ⟨ts, tq, es, er, eg0, eg1, eg2, eg3⟩ := own_chkE (own_c03 _ (own_offN u0 0).1 _ (own_offN u0 1).1 _ (own_offN u0 2).1 _ (own_offN u0 3).1)
      have ess : ts = tt := Option.some.inj (es.symm.trans etN)
      rw [ess] at er
      obtain ⟨rr, rf, rz, RQ⟩ := own_stepA HT RR0 (n := 0) (a := 3) (by decide) (by decide) er
      obtain ⟨g0, gf0, ga0_, gb0_⟩ := own_stepG HT RQ (q := 0) (by decide) eg0
      obtain ⟨g1, gf1, ga1_, gb1_⟩ := own_stepG HT RQ (q := 1) (by decide) eg1
      obtain ⟨g2, gf2, ga2_, gb2_⟩ := own_stepG HT RQ (q := 2) (by decide) eg2
      obtain ⟨g3, gf3, ga3_, gb3_⟩ := own_stepG HT RQ (q := 3) (by decide) eg3
      show own_Go _ _ _ _ (T102.setTop (mkF m 220 #[.val (.int u0), .val (.long u1), .second, .val (.long u2), .second, .val (.long (own_inv (-7046029254386353131 : Int64))), .second, .val (.int (0 : Int32)), .val (.int (3 : Int32)), .val (.ref b81), .val (.ref b92), .val (.ref b101), .unset, .unset, .unset, .unset, .unset] []))
      refine own_st (fun _ k => XS.iload X102.here hx rfl (hb hby at_220) rfl k) ?_
      refine own_st (fun _ k => XS.iload X102.here hx rfl (hb hby at_222) rfl k) ?_
      show own_Go _ _ _ _ (T102.setTop (mkF m 224 #[.val (.int u0), .val (.long u1), .second, .val (.long u2), .second, .val (.long (own_inv (-7046029254386353131 : Int64))), .second, .val (.int (0 : Int32)), .val (.int (3 : Int32)), .val (.ref b81), .val (.ref b92), .val (.ref b101), .unset, .unset, .unset, .unset, .unset] [(.int (0 : Int32)), (.int (3 : Int32))]))
      refine own_st (fun _ k => XS.icmpYes X102.here hx rfl (pc0 := 224) (pc' := 235) rfl (hb hby at_224) rfl (flt (by decide : ¬ ((3 : Int32) < (0 : Int32)))).2.1 (by decide) (by decide) k) ?_
      refine own_st (fun _ k => XS.lconst X102.here hx rfl (hb hby at_235) k) ?_
      refine own_st (fun _ k => XS.lstore X102.here hx rfl (hb hby at_236) rfl (l' := #[.val (.int u0), .val (.long u1), .second, .val (.long u2), .second, .val (.long (own_inv (-7046029254386353131 : Int64))), .second, .val (.int (0 : Int32)), .val (.int (3 : Int32)), .val (.ref b81), .val (.ref b92), .val (.ref b101), .val (.long (0 : Int64)), .second, .unset, .unset, .unset]) rfl k) ?_
      refine own_st (fun _ k => XS.aload X102.here hx rfl (hb hby at_238) rfl rfl k) ?_
      refine own_st (fun _ k => XS.aload X102.here hx rfl (hb hby at_240) rfl rfl k) ?_
      refine own_st (fun _ k => XS.iload X102.here hx rfl (hb hby at_242) rfl k) ?_
      show own_Go _ _ _ _ (T102.setTop (mkF m 244 #[.val (.int u0), .val (.long u1), .second, .val (.long u2), .second, .val (.long (own_inv (-7046029254386353131 : Int64))), .second, .val (.int (0 : Int32)), .val (.int (3 : Int32)), .val (.ref b81), .val (.ref b92), .val (.ref b101), .val (.long (0 : Int64)), .second, .unset, .unset, .unset] [(.int (3 : Int32)), (.ref b81), (.ref b101)]))
      obtain ⟨cl135, Ar135, -, Sz135, Nn135, Hs135, -⟩ := id z102_V_b81
      have hin135 : ¬ ((3 : Int32) < 0 ∨ cl135.slots.size ≤ ((3 : Int32)).toNatClampNeg) := inb_of Sz135 ⟨(by decide : ¬ ((3 : Int32) < (0 : Int32))), (by decide : (3 : Int32) < (5 : Int32))⟩
      have hat135 : cl135.slots[((3 : Int32)).toNatClampNeg]? = some (.long (own_kf u0 u1 3)) := Hs135.at hin135 rfl
      refine own_st (X102.laload hx (j := (3 : Int32)) (v := (.long (own_kf u0 u1 3))) Ar135.1 (State.isArrayOf_alike hZ.alike Ar135.2.1) Ar135.2.2 hin135 hat135 (g := (mkF m 244 #[.val (.int u0), .val (.long u1), .second, .val (.long u2), .second, .val (.long (own_inv (-7046029254386353131 : Int64))), .second, .val (.int (0 : Int32)), .val (.int (3 : Int32)), .val (.ref b81), .val (.ref b92), .val (.ref b101), .val (.long (0 : Int64)), .second, .unset, .unset, .unset] [(.int (3 : Int32)), (.ref b81), (.ref b101)])) rfl rfl (hb hby at_244)) ?_
      show own_Go _ _ _ _ (T102.setTop (mkF m 245 #[.val (.int u0), .val (.long u1), .second, .val (.long u2), .second, .val (.long (own_inv (-7046029254386353131 : Int64))), .second, .val (.int (0 : Int32)), .val (.int (3 : Int32)), .val (.ref b81), .val (.ref b92), .val (.ref b101), .val (.long (0 : Int64)), .second, .unset, .unset, .unset] [(.long (own_kf u0 u1 3)), (.ref b101)]))
      obtain ⟨cq136, kq136, q136a, q136b, q136c⟩ := isOf hZ rfl z102_E_b101
      obtain ⟨_, _, ⟨T136, L136, k136, n136⟩, -, X136, ⟨Lc136, hQ136, l136, y136, z136⟩, st136⟩ := X102.virtualBack hx (y := (⟨"quillvax/store/LongMap", "remove", "(J)J"⟩ : MethodName)) (z := (⟨"quillvax/store/LongMap", "remove", "(J)J"⟩ : MethodName)) hown (mvT hZ (hw _ (List.mem_of_getElem? (i := 34) rfl))) (mvT hZ (hw _ (List.mem_of_getElem? (i := 35) rfl))) (notFace_of_selects (args := #[]) (mvT hZ (hw _ (List.mem_of_getElem? (i := 37) rfl)))) (mvT hZ (hw _ (List.mem_of_getElem? (i := 37) rfl))) (mvT hZ (hw _ (List.mem_of_getElem? (i := 36) rfl))) (by decide) (backOf (W := 0) (rm7a l Z a0 hw [] b101 ka102 wa102 kk102 kw102 own_z own_z (own_kf u0 u1 3) rr T102.heap n0 Z102 z102_E_b101 Fq102_keys Fq102_values Fq102_slotBits Vk102 Vw102 rf rz) hZ (hw _ (List.mem_of_getElem? (i := 38) rfl)) (hw _ (List.mem_of_getElem? (i := 16) rfl)) (by decide) (by decide)) q136a q136c (g := (mkF m 245 #[.val (.int u0), .val (.long u1), .second, .val (.long u2), .second, .val (.long (own_inv (-7046029254386353131 : Int64))), .second, .val (.int (0 : Int32)), .val (.int (3 : Int32)), .val (.ref b81), .val (.ref b92), .val (.ref b101), .val (.long (0 : Int64)), .second, .unset, .unset, .unset] [(.long (own_kf u0 u1 3)), (.ref b101)])) rfl (by rw [hml]; rfl) (Steps.refl _) (argsL := [(.long (own_kf u0 u1 3))]) (rest := []) (lenOf own_pd0 rfl) rfl (by show 2 * 0 + _ ≤ _; exact Nat.le_of_eq rfl) (hb hby at_245) (fun _ _ => ⟨rfl, rfl, (by decide : 5 + 0 ≤ _), (by decide : 45 + 0 ≤ _)⟩)
      dsimp only [Pt.U, Pt.locs, Pt.cells, Pt.slots] at X136 l136 y136 z136 st136 hQ136
      rw [l136, y136, z136] at X136
      obtain ⟨rfl, Nq136, eq136⟩ := hQ136
      have N136 := Fr.app N102 Nq136
      refine own_tr st136 ?_
      refine own_st (fun _ k => XS.lstore X136.here hx rfl (hb hby at_248) rfl (l' := #[.val (.int u0), .val (.long u1), .second, .val (.long u2), .second, .val (.long (own_inv (-7046029254386353131 : Int64))), .second, .val (.int (0 : Int32)), .val (.int (3 : Int32)), .val (.ref b81), .val (.ref b92), .val (.ref b101), .val (.long (0 : Int64)), .second, .val (.long (0 : Int64)), .second, .unset]) rfl k) ?_
      refine own_st (fun _ k => XS.lload X136.here hx rfl (hb hby at_250) rfl k) ?_
      refine own_st (fun _ k => XS.lload X136.here hx rfl (hb hby at_252) rfl k) ?_
      show own_Go _ _ _ _ (T136.setTop (mkF m 254 #[.val (.int u0), .val (.long u1), .second, .val (.long u2), .second, .val (.long (own_inv (-7046029254386353131 : Int64))), .second, .val (.int (0 : Int32)), .val (.int (3 : Int32)), .val (.ref b81), .val (.ref b92), .val (.ref b101), .val (.long (0 : Int64)), .second, .val (.long (0 : Int64)), .second, .unset] [(.long (0 : Int64)), (.long (0 : Int64))]))
      refine own_st (fun _ k => XS.lcmp X136.here hx rfl (hb hby at_254) rfl k) ?_
      show own_Go _ _ _ _ (T136.setTop (mkF m 255 #[.val (.int u0), .val (.long u1), .second, .val (.long u2), .second, .val (.long (own_inv (-7046029254386353131 : Int64))), .second, .val (.int (0 : Int32)), .val (.int (3 : Int32)), .val (.ref b81), .val (.ref b92), .val (.ref b101), .val (.long (0 : Int64)), .second, .val (.long (0 : Int64)), .second, .unset] [(.int (lcmpW (0 : Int64) (0 : Int64)))]))
      rw [show (lcmpW (0 : Int64) (0 : Int64)) = (0 : Int32) from by decide]
      show own_Go _ _ _ _ (T136.setTop (mkF m 255 #[.val (.int u0), .val (.long u1), .second, .val (.long u2), .second, .val (.long (own_inv (-7046029254386353131 : Int64))), .second, .val (.int (0 : Int32)), .val (.int (3 : Int32)), .val (.ref b81), .val (.ref b92), .val (.ref b101), .val (.long (0 : Int64)), .second, .val (.long (0 : Int64)), .second, .unset] [(.int (0 : Int32))]))
      refine own_st (fun _ k => XS.ifNo X136.here hx rfl (hb hby at_255) rfl ((if0 _ _).trans (teq (by decide : ((0 : Int32) = (0 : Int32)))).2) k) ?_
      refine own_st (fun _ k => XS.iconst X136.here hx rfl (hb hby at_258) k) ?_
      refine own_st (fun _ k => XS.goto X136.here hx rfl (pc0 := 259) (pc' := 263) rfl (hb hby at_259) (by decide) (by decide) k) ?_
      refine own_st (fun _ k => XS.istore X136.here hx rfl (hb hby at_263) rfl (l' := #[.val (.int u0), .val (.long u1), .second, .val (.long u2), .second, .val (.long (own_inv (-7046029254386353131 : Int64))), .second, .val (.int (0 : Int32)), .val (.int (3 : Int32)), .val (.ref b81), .val (.ref b92), .val (.ref b101), .val (.long (0 : Int64)), .second, .val (.long (0 : Int64)), .second, .val (.int (1 : Int32))]) rfl k) ?_
      show own_Go _ _ _ _ (T136.setTop (mkF m 265 #[.val (.int u0), .val (.long u1), .second, .val (.long u2), .second, .val (.long (own_inv (-7046029254386353131 : Int64))), .second, .val (.int (0 : Int32)), .val (.int (3 : Int32)), .val (.ref b81), .val (.ref b92), .val (.ref b101), .val (.long (0 : Int64)), .second, .val (.long (0 : Int64)), .second, .val (.int (1 : Int32))] []))
      refine TAIL _ _ _ _ _ _ g0 g1 g2 g3 _ _ _ _ X136 eq136 Vk102 Vw102 z102_E_b101 Fq102_keys Fq102_values Fq102_slotBits z102_V_b81 z102_V_b92 N136 Z102 gf0 (by rw [if_neg (by decide)]; exact ga0_ (by decide)) gf1 (by rw [if_neg (by decide)]; exact ga1_ (by decide)) gf2 (by rw [if_neg (by decide)]; exact ga2_ (by decide)) gf3 (by rw [if_neg (by decide)]; exact ga3_ (by decide)) ?_
      intro TM lcM XM NM
      show own_Go _ _ _ _ (TM.setTop (mkF m 446 #[.val (.int u0), .val (.long u1), .second, .val (.long u2), .second, .val (.long (own_inv (-7046029254386353131 : Int64))), .second, .val (.int (0 : Int32)), .val (.int (3 : Int32)), .val (.ref b81), .val (.ref b92), .val (.ref b101), .val (.long (0 : Int64)), .second, .val (.long (0 : Int64)), .second, .val (.int (1 : Int32))] [(.int (1 : Int32))]))
      obtain ⟨fs, hr, hrun, hended, hW, hsame⟩ := XM.leave (v := some (.int (1 : Int32))) (fun h => by rw [Bd.returns] at h; cases h)
      refine own_out (retN XM hx (t := .boolean) Bd.returns (by simp) (hb hby at_446) hr) ⟨hrun, hended, _, _, rfl, ?_, ⟨_, rfl⟩, hW, hsame.mono (by decide) (by decide)⟩
      show Q0 Z u0 u1 u2 h0 n0 _ TM.heap _
      exact ⟨rfl, NM⟩
    · skip
      rw [hs128]
      have HT := own_H5 u0 u1 u2
      obtain ⟨ts, tq, es, er, eg0, eg1, eg2, eg3⟩ := own_chkE (own_c04 _ (own_offN u0 0).1 _ (own_offN u0 1).1 _ (own_offN u0 2).1 _ (own_offN u0 3).1 _ (own_offN u0 4).1)
      have ess : ts = tt := Option.some.inj (es.symm.trans etN)
      rw [ess] at er
      obtain ⟨rr, rf, rz, RQ⟩ := own_stepA HT RR0 (n := 0) (a := 4) (by decide) (by decide) er
      obtain ⟨g0, gf0, ga0_, gb0_⟩ := own_stepG HT RQ (q := 0) (by decide) eg0
      obtain ⟨g1, gf1, ga1_, gb1_⟩ := own_stepG HT RQ (q := 1) (by decide) eg1
      obtain ⟨g2, gf2, ga2_, gb2_⟩ := own_stepG HT RQ (q := 2) (by decide) eg2
      obtain ⟨g3, gf3, ga3_, gb3_⟩ := own_stepG HT RQ (q := 3) (by decide) eg3
      show own_Go _ _ _ _ (T102.setTop (mkF m 220 #[.val (.int u0), .val (.long u1), .second, .val (.long u2), .second, .val (.long (own_inv (-7046029254386353131 : Int64))), .second, .val (.int (0 : Int32)), .val (.int (4 : Int32)), .val (.ref b81), .val (.ref b92), .val (.ref b101), .unset, .unset, .unset, .unset, .unset] []))
      refine own_st (fun _ k => XS.iload X102.here hx rfl (hb hby at_220) rfl k) ?_
      refine own_st (fun _ k => XS.iload X102.here hx rfl (hb hby at_222) rfl k) ?_
      show own_Go _ _ _ _ (T102.setTop (mkF m 224 #[.val (.int u0), .val (.long u1), .second, .val (.long u2), .second, .val (.long (own_inv (-7046029254386353131 : Int64))), .second, .val (.int (0 : Int32)), .val (.int (4 : Int32)), .val (.ref b81), .val (.ref b92), .val (.ref b101), .unset, .unset, .unset, .unset, .unset] [(.int (0 : Int32)), (.int (4 : Int32))]))
      refine own_st (fun _ k => XS.icmpYes X102.here hx rfl (pc0 := 224) (pc' := 235) rfl (hb hby at_224) rfl (flt (by decide : ¬ ((4 : Int32) < (0 : Int32)))).2.1 (by decide) (by decide) k) ?_
      refine own_st (fun _ k => XS.lconst X102.here hx rfl (hb hby at_235) k) ?_
      refine own_st (fun _ k => XS.lstore X102.here hx rfl (hb hby at_236) rfl (l' := #[.val (.int u0), .val (.long u1), .second, .val (.long u2), .second, .val (.long (own_inv (-7046029254386353131 : Int64))), .second, .val (.int (0 : Int32)), .val (.int (4 : Int32)), .val (.ref b81), .val (.ref b92), .val (.ref b101), .val (.long (0 : Int64)), .second, .unset, .unset, .unset]) rfl k) ?_
      refine own_st (fun _ k => XS.aload X102.here hx rfl (hb hby at_238) rfl rfl k) ?_
      refine own_st (fun _ k => XS.aload X102.here hx rfl (hb hby at_240) rfl rfl k) ?_
      refine own_st (fun _ k => XS.iload X102.here hx rfl (hb hby at_242) rfl k) ?_
      show own_Go _ _ _ _ (T102.setTop (mkF m 244 #[.val (.int u0), .val (.long u1), .second, .val (.long u2), .second, .val (.long (own_inv (-7046029254386353131 : Int64))), .second, .val (.int (0 : Int32)), .val (.int (4 : Int32)), .val (.ref b81), .val (.ref b92), .val (.ref b101), .val (.long (0 : Int64)), .second, .unset, .unset, .unset] [(.int (4 : Int32)), (.ref b81), (.ref b101)]))
      obtain ⟨cl137, Ar137, -, Sz137, Nn137, Hs137, -⟩ := id z102_V_b81
      have hin137 : ¬ ((4 : Int32) < 0 ∨ cl137.slots.size ≤ ((4 : Int32)).toNatClampNeg) := inb_of Sz137 ⟨(by decide : ¬ ((4 : Int32) < (0 : Int32))), (by decide : (4 : Int32) < (5 : Int32))⟩
      have hat137 : cl137.slots[((4 : Int32)).toNatClampNeg]? = some (.long (own_kf u0 u1 4)) := Hs137.at hin137 rfl
      refine own_st (X102.laload hx (j := (4 : Int32)) (v := (.long (own_kf u0 u1 4))) Ar137.1 (State.isArrayOf_alike hZ.alike Ar137.2.1) Ar137.2.2 hin137 hat137 (g := (mkF m 244 #[.val (.int u0), .val (.long u1), .second, .val (.long u2), .second, .val (.long (own_inv (-7046029254386353131 : Int64))), .second, .val (.int (0 : Int32)), .val (.int (4 : Int32)), .val (.ref b81), .val (.ref b92), .val (.ref b101), .val (.long (0 : Int64)), .second, .unset, .unset, .unset] [(.int (4 : Int32)), (.ref b81), (.ref b101)])) rfl rfl (hb hby at_244)) ?_
      show own_Go _ _ _ _ (T102.setTop (mkF m 245 #[.val (.int u0), .val (.long u1), .second, .val (.long u2), .second, .val (.long (own_inv (-7046029254386353131 : Int64))), .second, .val (.int (0 : Int32)), .val (.int (4 : Int32)), .val (.ref b81), .val (.ref b92), .val (.ref b101), .val (.long (0 : Int64)), .second, .unset, .unset, .unset] [(.long (own_kf u0 u1 4)), (.ref b101)]))
      obtain ⟨cq138, kq138, q138a, q138b, q138c⟩ := isOf hZ rfl z102_E_b101
      obtain ⟨_, _, ⟨T138, L138, k138, n138⟩, -, X138, ⟨Lc138, hQ138, l138, y138, z138⟩, st138⟩ := X102.virtualBack hx (y := (⟨"quillvax/store/LongMap", "remove", "(J)J"⟩ : MethodName)) (z := (⟨"quillvax/store/LongMap", "remove", "(J)J"⟩ : MethodName)) hown (mvT hZ (hw _ (List.mem_of_getElem? (i := 34) rfl))) (mvT hZ (hw _ (List.mem_of_getElem? (i := 35) rfl))) (notFace_of_selects (args := #[]) (mvT hZ (hw _ (List.mem_of_getElem? (i := 37) rfl)))) (mvT hZ (hw _ (List.mem_of_getElem? (i := 37) rfl))) (mvT hZ (hw _ (List.mem_of_getElem? (i := 36) rfl))) (by decide) (backOf (W := 0) (rm7a l Z a0 hw [] b101 ka102 wa102 kk102 kw102 own_z own_z (own_kf u0 u1 4) rr T102.heap n0 Z102 z102_E_b101 Fq102_keys Fq102_values Fq102_slotBits Vk102 Vw102 rf rz) hZ (hw _ (List.mem_of_getElem? (i := 38) rfl)) (hw _ (List.mem_of_getElem? (i := 16) rfl)) (by decide) (by decide)) q138a q138c (g := (mkF m 245 #[.val (.int u0), .val (.long u1), .second, .val (.long u2), .second, .val (.long (own_inv (-7046029254386353131 : Int64))), .second, .val (.int (0 : Int32)), .val (.int (4 : Int32)), .val (.ref b81), .val (.ref b92), .val (.ref b101), .val (.long (0 : Int64)), .second, .unset, .unset, .unset] [(.long (own_kf u0 u1 4)), (.ref b101)])) rfl (by rw [hml]; rfl) (Steps.refl _) (argsL := [(.long (own_kf u0 u1 4))]) (rest := []) (lenOf own_pd0 rfl) rfl (by show 2 * 0 + _ ≤ _; exact Nat.le_of_eq rfl) (hb hby at_245) (fun _ _ => ⟨rfl, rfl, (by decide : 5 + 0 ≤ _), (by decide : 45 + 0 ≤ _)⟩)
      dsimp only [Pt.U, Pt.locs, Pt.cells, Pt.slots] at X138 l138 y138 z138 st138 hQ138
      rw [l138, y138, z138] at X138
      obtain ⟨rfl, Nq138, eq138⟩ := hQ138
      have N138 := Fr.app N102 Nq138
      refine own_tr st138 ?_
      refine own_st (fun _ k => XS.lstore X138.here hx rfl (hb hby at_248) rfl (l' := #[.val (.int u0), .val (.long u1), .second, .val (.long u2), .second, .val (.long (own_inv (-7046029254386353131 : Int64))), .second, .val (.int (0 : Int32)), .val (.int (4 : Int32)), .val (.ref b81), .val (.ref b92), .val (.ref b101), .val (.long (0 : Int64)), .second, .val (.long (0 : Int64)), .second, .unset]) rfl k) ?_
      refine own_st (fun _ k => XS.lload X138.here hx rfl (hb hby at_250) rfl k) ?_
      refine own_st (fun _ k => XS.lload X138.here hx rfl (hb hby at_252) rfl k) ?_
      show own_Go _ _ _ _ (T138.setTop (mkF m 254 #[.val (.int u0), .val (.long u1), .second, .val (.long u2), .second, .val (.long (own_inv (-7046029254386353131 : Int64))), .second, .val (.int (0 : Int32)), .val (.int (4 : Int32)), .val (.ref b81), .val (.ref b92), .val (.ref b101), .val (.long (0 : Int64)), .second, .val (.long (0 : Int64)), .second, .unset] [(.long (0 : Int64)), (.long (0 : Int64))]))
      refine own_st (fun _ k => XS.lcmp X138.here hx rfl (hb hby at_254) rfl k) ?_
      show own_Go _ _ _ _ (T138.setTop (mkF m 255 #[.val (.int u0), .val (.long u1), .second, .val (.long u2), .second, .val (.long (own_inv (-7046029254386353131 : Int64))), .second, .val (.int (0 : Int32)), .val (.int (4 : Int32)), .val (.ref b81), .val (.ref b92), .val (.ref b101), .val (.long (0 : Int64)), .second, .val (.long (0 : Int64)), .second, .unset] [(.int (lcmpW (0 : Int64) (0 : Int64)))]))
      rw [show (lcmpW (0 : Int64) (0 : Int64)) = (0 : Int32) from by decide]
      show own_Go _ _ _ _ (T138.setTop (mkF m 255 #[.val (.int u0), .val (.long u1), .second, .val (.long u2), .second, .val (.long (own_inv (-7046029254386353131 : Int64))), .second, .val (.int (0 : Int32)), .val (.int (4 : Int32)), .val (.ref b81), .val (.ref b92), .val (.ref b101), .val (.long (0 : Int64)), .second, .val (.long (0 : Int64)), .second, .unset] [(.int (0 : Int32))]))
      refine own_st (fun _ k => XS.ifNo X138.here hx rfl (hb hby at_255) rfl ((if0 _ _).trans (teq (by decide : ((0 : Int32) = (0 : Int32)))).2) k) ?_
      refine own_st (fun _ k => XS.iconst X138.here hx rfl (hb hby at_258) k) ?_
      refine own_st (fun _ k => XS.goto X138.here hx rfl (pc0 := 259) (pc' := 263) rfl (hb hby at_259) (by decide) (by decide) k) ?_
      refine own_st (fun _ k => XS.istore X138.here hx rfl (hb hby at_263) rfl (l' := #[.val (.int u0), .val (.long u1), .second, .val (.long u2), .second, .val (.long (own_inv (-7046029254386353131 : Int64))), .second, .val (.int (0 : Int32)), .val (.int (4 : Int32)), .val (.ref b81), .val (.ref b92), .val (.ref b101), .val (.long (0 : Int64)), .second, .val (.long (0 : Int64)), .second, .val (.int (1 : Int32))]) rfl k) ?_
      show own_Go _ _ _ _ (T138.setTop (mkF m 265 #[.val (.int u0), .val (.long u1), .second, .val (.long u2), .second, .val (.long (own_inv (-7046029254386353131 : Int64))), .second, .val (.int (0 : Int32)), .val (.int (4 : Int32)), .val (.ref b81), .val (.ref b92), .val (.ref b101), .val (.long (0 : Int64)), .second, .val (.long (0 : Int64)), .second, .val (.int (1 : Int32))] []))
      refine TAIL _ _ _ _ _ _ g0 g1 g2 g3 _ _ _ _ X138 eq138 Vk102 Vw102 z102_E_b101 Fq102_keys Fq102_values Fq102_slotBits z102_V_b81 z102_V_b92 N138 Z102 gf0 (by rw [if_neg (by decide)]; exact ga0_ (by decide)) gf1 (by rw [if_neg (by decide)]; exact ga1_ (by decide)) gf2 (by rw [if_neg (by decide)]; exact ga2_ (by decide)) gf3 (by rw [if_neg (by decide)]; exact ga3_ (by decide)) ?_
      intro TM lcM XM NM
      show own_Go _ _ _ _ (TM.setTop (mkF m 446 #[.val (.int u0), .val (.long u1), .second, .val (.long u2), .second, .val (.long (own_inv (-7046029254386353131 : Int64))), .second, .val (.int (0 : Int32)), .val (.int (4 : Int32)), .val (.ref b81), .val (.ref b92), .val (.ref b101), .val (.long (0 : Int64)), .second, .val (.long (0 : Int64)), .second, .val (.int (1 : Int32))] [(.int (1 : Int32))]))
      obtain ⟨fs, hr, hrun, hended, hW, hsame⟩ := XM.leave (v := some (.int (1 : Int32))) (fun h => by rw [Bd.returns] at h; cases h)
      refine own_out (retN XM hx (t := .boolean) Bd.returns (by simp) (hb hby at_446) hr) ⟨hrun, hended, _, _, rfl, ?_, ⟨_, rfl⟩, hW, hsame.mono (by decide) (by decide)⟩
      show Q0 Z u0 u1 u2 h0 n0 _ TM.heap _
      exact ⟨rfl, NM⟩
  · skip
    rw [hs127]
    have HH := own_H5 u0 u1 u2
    obtain ⟨tt, -, et1, -⟩ := own_chkE (own_c14 _ (own_offN u0 0).1 _ (own_offN u0 1).1 _ (own_offN u0 2).1 _ (own_offN u0 3).1 _ (own_offN u0 4).1)
    have etN := et1
    obtain ⟨tb0, jb0, et0, ef0, ez0, es0⟩ := own_tblS et1
    have RR0 := own_R0 (own_kf u0 u1) (own_vf u2) (own_base u0)
    have eb0 : tb0 = List.replicate 16 0 := (Option.some.inj et0).symm
    rw [← eb0] at RR0
    obtain ⟨r0, f0, z0, RR1⟩ := own_stepP HH RR0 (a := 0) (by decide) ef0 ez0 es0
    obtain ⟨KN, eKN⟩ : ∃ z, (own_upd own_z r0 (own_kf u0 u1 0)) = z := ⟨_, rfl⟩
    obtain ⟨WN, eWN⟩ : ∃ z, (own_upd own_z r0 (own_vf u2 0)) = z := ⟨_, rfl⟩
    rw [eKN, eWN] at RR1
    show own_Go _ _ _ _ (T102.setTop (mkF m 145 #[.val (.int u0), .val (.long u1), .second, .val (.long u2), .second, .val (.long (own_inv (-7046029254386353131 : Int64))), .second, .val (.int (1 : Int32)), .val (.int ((((u0.toUInt32 >>> ((14 : Int32) &&& 31).toUInt32).toInt32) &&& (7 : Int32)) - ((((u0.toUInt32 >>> ((14 : Int32) &&& 31).toUInt32).toInt32) &&& (7 : Int32)) / (5 : Int32)) * (5 : Int32))), .val (.ref b81), .val (.ref b92), .val (.ref b101), .unset, .unset, .unset, .unset, .unset] []))
    refine own_st (fun _ k => XS.iload X102.here hx rfl (hb hby at_145) rfl k) ?_
    show own_Go _ _ _ _ (T102.setTop (mkF m 147 #[.val (.int u0), .val (.long u1), .second, .val (.long u2), .second, .val (.long (own_inv (-7046029254386353131 : Int64))), .second, .val (.int (1 : Int32)), .val (.int ((((u0.toUInt32 >>> ((14 : Int32) &&& 31).toUInt32).toInt32) &&& (7 : Int32)) - ((((u0.toUInt32 >>> ((14 : Int32) &&& 31).toUInt32).toInt32) &&& (7 : Int32)) / (5 : Int32)) * (5 : Int32))), .val (.ref b81), .val (.ref b92), .val (.ref b101), .unset, .unset, .unset, .unset, .unset] [(.int (1 : Int32))]))
    refine own_st (fun _ k => XS.ifNo X102.here hx rfl (hb hby at_147) rfl ((if0 _ _).trans (tlt (by decide : ((0 : Int32) < (1 : Int32)))).2.2.2) k) ?_
    refine own_st (fun _ k => XS.aload X102.here hx rfl (hb hby at_150) rfl rfl k) ?_
    refine own_st (fun _ k => XS.aload X102.here hx rfl (hb hby at_152) rfl rfl k) ?_
    refine own_st (fun _ k => XS.iconst X102.here hx rfl (hb hby at_154) k) ?_
    show own_Go _ _ _ _ (T102.setTop (mkF m 155 #[.val (.int u0), .val (.long u1), .second, .val (.long u2), .second, .val (.long (own_inv (-7046029254386353131 : Int64))), .second, .val (.int (1 : Int32)), .val (.int ((((u0.toUInt32 >>> ((14 : Int32) &&& 31).toUInt32).toInt32) &&& (7 : Int32)) - ((((u0.toUInt32 >>> ((14 : Int32) &&& 31).toUInt32).toInt32) &&& (7 : Int32)) / (5 : Int32)) * (5 : Int32))), .val (.ref b81), .val (.ref b92), .val (.ref b101), .unset, .unset, .unset, .unset, .unset] [(.int (0 : Int32)), (.ref b81), (.ref b101)]))
    obtain ⟨cl139, Ar139, -, Sz139, Nn139, Hs139, -⟩ := id z102_V_b81
    have hin139 : ¬ ((0 : Int32) < 0 ∨ cl139.slots.size ≤ ((0 : Int32)).toNatClampNeg) := inb_of Sz139 ⟨(by decide : ¬ ((0 : Int32) < (0 : Int32))), (by decide : (0 : Int32) < (5 : Int32))⟩
    have hat139 : cl139.slots[((0 : Int32)).toNatClampNeg]? = some (.long (own_kf u0 u1 0)) := Hs139.at hin139 rfl
    refine own_st (X102.laload hx (j := (0 : Int32)) (v := (.long (own_kf u0 u1 0))) Ar139.1 (State.isArrayOf_alike hZ.alike Ar139.2.1) Ar139.2.2 hin139 hat139 (g := (mkF m 155 #[.val (.int u0), .val (.long u1), .second, .val (.long u2), .second, .val (.long (own_inv (-7046029254386353131 : Int64))), .second, .val (.int (1 : Int32)), .val (.int ((((u0.toUInt32 >>> ((14 : Int32) &&& 31).toUInt32).toInt32) &&& (7 : Int32)) - ((((u0.toUInt32 >>> ((14 : Int32) &&& 31).toUInt32).toInt32) &&& (7 : Int32)) / (5 : Int32)) * (5 : Int32))), .val (.ref b81), .val (.ref b92), .val (.ref b101), .unset, .unset, .unset, .unset, .unset] [(.int (0 : Int32)), (.ref b81), (.ref b101)])) rfl rfl (hb hby at_155)) ?_
    refine own_st (fun _ k => XS.aload X102.here hx rfl (hb hby at_156) rfl rfl k) ?_
    refine own_st (fun _ k => XS.iconst X102.here hx rfl (hb hby at_158) k) ?_
    show own_Go _ _ _ _ (T102.setTop (mkF m 159 #[.val (.int u0), .val (.long u1), .second, .val (.long u2), .second, .val (.long (own_inv (-7046029254386353131 : Int64))), .second, .val (.int (1 : Int32)), .val (.int ((((u0.toUInt32 >>> ((14 : Int32) &&& 31).toUInt32).toInt32) &&& (7 : Int32)) - ((((u0.toUInt32 >>> ((14 : Int32) &&& 31).toUInt32).toInt32) &&& (7 : Int32)) / (5 : Int32)) * (5 : Int32))), .val (.ref b81), .val (.ref b92), .val (.ref b101), .unset, .unset, .unset, .unset, .unset] [(.int (0 : Int32)), (.ref b92), (.long (own_kf u0 u1 0)), (.ref b101)]))
    obtain ⟨cl140, Ar140, -, Sz140, Nn140, Hs140, -⟩ := id z102_V_b92
    have hin140 : ¬ ((0 : Int32) < 0 ∨ cl140.slots.size ≤ ((0 : Int32)).toNatClampNeg) := inb_of Sz140 ⟨(by decide : ¬ ((0 : Int32) < (0 : Int32))), (by decide : (0 : Int32) < (4 : Int32))⟩
    have hat140 : cl140.slots[((0 : Int32)).toNatClampNeg]? = some (.long (own_vf u2 0)) := Hs140.at hin140 rfl
    refine own_st (X102.laload hx (j := (0 : Int32)) (v := (.long (own_vf u2 0))) Ar140.1 (State.isArrayOf_alike hZ.alike Ar140.2.1) Ar140.2.2 hin140 hat140 (g := (mkF m 159 #[.val (.int u0), .val (.long u1), .second, .val (.long u2), .second, .val (.long (own_inv (-7046029254386353131 : Int64))), .second, .val (.int (1 : Int32)), .val (.int ((((u0.toUInt32 >>> ((14 : Int32) &&& 31).toUInt32).toInt32) &&& (7 : Int32)) - ((((u0.toUInt32 >>> ((14 : Int32) &&& 31).toUInt32).toInt32) &&& (7 : Int32)) / (5 : Int32)) * (5 : Int32))), .val (.ref b81), .val (.ref b92), .val (.ref b101), .unset, .unset, .unset, .unset, .unset] [(.int (0 : Int32)), (.ref b92), (.long (own_kf u0 u1 0)), (.ref b101)])) rfl rfl (hb hby at_159)) ?_
    show own_Go _ _ _ _ (T102.setTop (mkF m 160 #[.val (.int u0), .val (.long u1), .second, .val (.long u2), .second, .val (.long (own_inv (-7046029254386353131 : Int64))), .second, .val (.int (1 : Int32)), .val (.int ((((u0.toUInt32 >>> ((14 : Int32) &&& 31).toUInt32).toInt32) &&& (7 : Int32)) - ((((u0.toUInt32 >>> ((14 : Int32) &&& 31).toUInt32).toInt32) &&& (7 : Int32)) / (5 : Int32)) * (5 : Int32))), .val (.ref b81), .val (.ref b92), .val (.ref b101), .unset, .unset, .unset, .unset, .unset] [(.long (own_vf u2 0)), (.long (own_kf u0 u1 0)), (.ref b101)]))
    obtain ⟨cq141, kq141, q141a, q141b, q141c⟩ := isOf hZ rfl z102_E_b101
    obtain ⟨_, _, ⟨T141, L141, k141, n141⟩, -, X141, ⟨Lc141, hQ141, l141, y141, z141⟩, st141⟩ := X102.virtualBack hx (y := (⟨"quillvax/store/LongMap", "put", "(JJ)V"⟩ : MethodName)) (z := (⟨"quillvax/store/LongMap", "put", "(JJ)V"⟩ : MethodName)) hown (mvT hZ (hw _ (List.mem_of_getElem? (i := 53) rfl))) (mvT hZ (hw _ (List.mem_of_getElem? (i := 54) rfl))) (notFace_of_selects (args := #[]) (mvT hZ (hw _ (List.mem_of_getElem? (i := 56) rfl)))) (mvT hZ (hw _ (List.mem_of_getElem? (i := 56) rfl))) (mvT hZ (hw _ (List.mem_of_getElem? (i := 55) rfl))) (by decide) (backOf (W := 0) (rm11 l Z a0 hw [] b101 ka102 wa102 kk102 kw102 own_z own_z (own_kf u0 u1 0) (own_vf u2 0) r0 (0 : Int32) T102.heap n0 Z102 z102_E_b101 Fq102_keys Fq102_values Fq102_slotBits Fq102_size Vk102 Vw102 gnb101 gnka102 gnwa102 neb101_ka102 neb101_wa102 nk102 f0 (fun q => own_vnz u2 0 (by decide) ((lw_eq _ _).mp q)) z0 (by decide)) hZ (hw _ (List.mem_of_getElem? (i := 57) rfl)) (hw _ (List.mem_of_getElem? (i := 16) rfl)) (by decide) (by decide)) q141a q141c (g := (mkF m 160 #[.val (.int u0), .val (.long u1), .second, .val (.long u2), .second, .val (.long (own_inv (-7046029254386353131 : Int64))), .second, .val (.int (1 : Int32)), .val (.int ((((u0.toUInt32 >>> ((14 : Int32) &&& 31).toUInt32).toInt32) &&& (7 : Int32)) - ((((u0.toUInt32 >>> ((14 : Int32) &&& 31).toUInt32).toInt32) &&& (7 : Int32)) / (5 : Int32)) * (5 : Int32))), .val (.ref b81), .val (.ref b92), .val (.ref b101), .unset, .unset, .unset, .unset, .unset] [(.long (own_vf u2 0)), (.long (own_kf u0 u1 0)), (.ref b101)])) rfl (by rw [hml]; rfl) (Steps.refl _) (argsL := [(.long (own_kf u0 u1 0)), (.long (own_vf u2 0))]) (rest := []) (lenOf own_pd8 rfl) rfl (by show 2 * 0 + _ ≤ _; exact Nat.le_of_eq rfl) (hb hby at_160) (fun _ _ => ⟨rfl, rfl, (by decide : 5 + 0 ≤ _), (by decide : 45 + 0 ≤ _)⟩)
    dsimp only [Pt.U, Pt.locs, Pt.cells, Pt.slots] at X141 l141 y141 z141 st141 hQ141
    rw [l141, y141, z141] at X141
    obtain ⟨rfl, Nq141, Kq141, Eq141, Fq141_keys, Fq141_values, Fq141_slotBits, Fq141_size, Vk141, Vw141⟩ := hQ141
    have N141 := Fr.app N102 Nq141
    refine own_tr st141 ?_
    have z141_V_b81 := z102_V_b81.keep Kq141 (ninS neb81_b101 (ninS neb81_ka102 (ninS neb81_wa102 nin0)))
    have z141_V_b92 := z102_V_b92.keep Kq141 (ninS neb92_b101 (ninS neb92_ka102 (ninS neb92_wa102 nin0)))
    have z141_E_b101 := z102_E_b101.keep Kq141
    have Z141 : n0 ≤ T141.heap.size := Nat.le_trans Z102 Kq141.1
    have Kk141 : Keep h0 T141.heap [] := Kk102.trans Kq141 (allS (Or.inr gkb101) (allS (Or.inr gkka102) (allS (Or.inr gkwa102) all0)))
    have Fz141 : Fld Z T141.heap b101 "quillvax/store/LongMap" "size" "I" (.int (1 : Int32)) := Fq141_size
    have VkN : Arv Z T141.heap ka102 kk102 .long (16 : Int32) (own_vs KN) (.long (0 : Int64)) := eKN ▸ Vk141
    have VwN : Arv Z T141.heap wa102 kw102 .long (16 : Int32) (own_vs WN) (.long (0 : Int64)) := eWN ▸ Vw141
    refine own_st (fun _ k => XS.iload X141.here hx rfl (hb hby at_163) rfl k) ?_
    refine own_st (fun _ k => XS.iconst X141.here hx rfl (hb hby at_165) k) ?_
    show own_Go _ _ _ _ (T141.setTop (mkF m 166 #[.val (.int u0), .val (.long u1), .second, .val (.long u2), .second, .val (.long (own_inv (-7046029254386353131 : Int64))), .second, .val (.int (1 : Int32)), .val (.int ((((u0.toUInt32 >>> ((14 : Int32) &&& 31).toUInt32).toInt32) &&& (7 : Int32)) - ((((u0.toUInt32 >>> ((14 : Int32) &&& 31).toUInt32).toInt32) &&& (7 : Int32)) / (5 : Int32)) * (5 : Int32))), .val (.ref b81), .val (.ref b92), .val (.ref b101), .unset, .unset, .unset, .unset, .unset] [(.int (1 : Int32)), (.int (1 : Int32))]))
    refine own_st (fun _ k => XS.icmpYes X141.here hx rfl (pc0 := 166) (pc' := 182) rfl (hb hby at_166) rfl (flt (by decide : ¬ ((1 : Int32) < (1 : Int32)))).2.2.2 (by decide) (by decide) k) ?_
    refine own_st (fun _ k => XS.iload X141.here hx rfl (hb hby at_182) rfl k) ?_
    refine own_st (fun _ k => XS.iconst X141.here hx rfl (hb hby at_184) k) ?_
    show own_Go _ _ _ _ (T141.setTop (mkF m 185 #[.val (.int u0), .val (.long u1), .second, .val (.long u2), .second, .val (.long (own_inv (-7046029254386353131 : Int64))), .second, .val (.int (1 : Int32)), .val (.int ((((u0.toUInt32 >>> ((14 : Int32) &&& 31).toUInt32).toInt32) &&& (7 : Int32)) - ((((u0.toUInt32 >>> ((14 : Int32) &&& 31).toUInt32).toInt32) &&& (7 : Int32)) / (5 : Int32)) * (5 : Int32))), .val (.ref b81), .val (.ref b92), .val (.ref b101), .unset, .unset, .unset, .unset, .unset] [(.int (2 : Int32)), (.int (1 : Int32))]))
    refine own_st (fun _ k => XS.icmpYes X141.here hx rfl (pc0 := 185) (pc' := 201) rfl (hb hby at_185) rfl (flt (by decide : ¬ ((2 : Int32) < (1 : Int32)))).2.2.2 (by decide) (by decide) k) ?_
    refine own_st (fun _ k => XS.iload X141.here hx rfl (hb hby at_201) rfl k) ?_
    refine own_st (fun _ k => XS.iconst X141.here hx rfl (hb hby at_203) k) ?_
    show own_Go _ _ _ _ (T141.setTop (mkF m 204 #[.val (.int u0), .val (.long u1), .second, .val (.long u2), .second, .val (.long (own_inv (-7046029254386353131 : Int64))), .second, .val (.int (1 : Int32)), .val (.int ((((u0.toUInt32 >>> ((14 : Int32) &&& 31).toUInt32).toInt32) &&& (7 : Int32)) - ((((u0.toUInt32 >>> ((14 : Int32) &&& 31).toUInt32).toInt32) &&& (7 : Int32)) / (5 : Int32)) * (5 : Int32))), .val (.ref b81), .val (.ref b92), .val (.ref b101), .unset, .unset, .unset, .unset, .unset] [(.int (3 : Int32)), (.int (1 : Int32))]))
    refine own_st (fun _ k => XS.icmpYes X141.here hx rfl (pc0 := 204) (pc' := 220) rfl (hb hby at_204) rfl (flt (by decide : ¬ ((3 : Int32) < (1 : Int32)))).2.2.2 (by decide) (by decide) k) ?_
    show own_Go _ _ _ _ (T141.setTop (mkF m 220 #[.val (.int u0), .val (.long u1), .second, .val (.long u2), .second, .val (.long (own_inv (-7046029254386353131 : Int64))), .second, .val (.int (1 : Int32)), .val (.int ((((u0.toUInt32 >>> ((14 : Int32) &&& 31).toUInt32).toInt32) &&& (7 : Int32)) - ((((u0.toUInt32 >>> ((14 : Int32) &&& 31).toUInt32).toInt32) &&& (7 : Int32)) / (5 : Int32)) * (5 : Int32))), .val (.ref b81), .val (.ref b92), .val (.ref b101), .unset, .unset, .unset, .unset, .unset] []))
    rcases own_n5 ((u0.toUInt32 >>> ((14 : Int32) &&& 31).toUInt32).toInt32) with hs142 | hs142 | hs142 | hs142 | hs142
    · skip
      rw [hs142]
      have HT := own_H4 u0 u1 u2
      obtain ⟨ts, tq, es, er, eg0, eg1, eg2, eg3⟩ := own_chkE (own_c10 _ (own_offN u0 0).1 _ (own_offN u0 1).1 _ (own_offN u0 2).1 _ (own_offN u0 3).1)
      have ess : ts = tt := Option.some.inj (es.symm.trans etN)
      rw [ess] at er
      obtain ⟨rr, KR, WR, rf, rz, rm, RQ⟩ := own_stepR HT RR1 (n := 1) (a := 0) (by decide) (by decide) er
      obtain ⟨g0, gf0, ga0_, gb0_⟩ := own_stepG HT RQ (q := 0) (by decide) eg0
      obtain ⟨g1, gf1, ga1_, gb1_⟩ := own_stepG HT RQ (q := 1) (by decide) eg1
      obtain ⟨g2, gf2, ga2_, gb2_⟩ := own_stepG HT RQ (q := 2) (by decide) eg2
      obtain ⟨g3, gf3, ga3_, gb3_⟩ := own_stepG HT RQ (q := 3) (by decide) eg3
      show own_Go _ _ _ _ (T141.setTop (mkF m 220 #[.val (.int u0), .val (.long u1), .second, .val (.long u2), .second, .val (.long (own_inv (-7046029254386353131 : Int64))), .second, .val (.int (1 : Int32)), .val (.int (0 : Int32)), .val (.ref b81), .val (.ref b92), .val (.ref b101), .unset, .unset, .unset, .unset, .unset] []))
      refine own_st (fun _ k => XS.iload X141.here hx rfl (hb hby at_220) rfl k) ?_
      refine own_st (fun _ k => XS.iload X141.here hx rfl (hb hby at_222) rfl k) ?_
      show own_Go _ _ _ _ (T141.setTop (mkF m 224 #[.val (.int u0), .val (.long u1), .second, .val (.long u2), .second, .val (.long (own_inv (-7046029254386353131 : Int64))), .second, .val (.int (1 : Int32)), .val (.int (0 : Int32)), .val (.ref b81), .val (.ref b92), .val (.ref b101), .unset, .unset, .unset, .unset, .unset] [(.int (1 : Int32)), (.int (0 : Int32))]))
      refine own_st (fun _ k => XS.icmpNo X141.here hx rfl (hb hby at_224) rfl (tlt (by decide : ((0 : Int32) < (1 : Int32)))).2.1 k) ?_
      refine own_st (fun _ k => XS.aload X141.here hx rfl (hb hby at_227) rfl rfl k) ?_
      refine own_st (fun _ k => XS.iload X141.here hx rfl (hb hby at_229) rfl k) ?_
      show own_Go _ _ _ _ (T141.setTop (mkF m 231 #[.val (.int u0), .val (.long u1), .second, .val (.long u2), .second, .val (.long (own_inv (-7046029254386353131 : Int64))), .second, .val (.int (1 : Int32)), .val (.int (0 : Int32)), .val (.ref b81), .val (.ref b92), .val (.ref b101), .unset, .unset, .unset, .unset, .unset] [(.int (0 : Int32)), (.ref b92)]))
      obtain ⟨cl143, Ar143, -, Sz143, Nn143, Hs143, -⟩ := id z141_V_b92
      have hin143 : ¬ ((0 : Int32) < 0 ∨ cl143.slots.size ≤ ((0 : Int32)).toNatClampNeg) := inb_of Sz143 ⟨(by decide : ¬ ((0 : Int32) < (0 : Int32))), (by decide : (0 : Int32) < (4 : Int32))⟩
      have hat143 : cl143.slots[((0 : Int32)).toNatClampNeg]? = some (.long (own_vf u2 0)) := Hs143.at hin143 rfl
      refine own_st (X141.laload hx (j := (0 : Int32)) (v := (.long (own_vf u2 0))) Ar143.1 (State.isArrayOf_alike hZ.alike Ar143.2.1) Ar143.2.2 hin143 hat143 (g := (mkF m 231 #[.val (.int u0), .val (.long u1), .second, .val (.long u2), .second, .val (.long (own_inv (-7046029254386353131 : Int64))), .second, .val (.int (1 : Int32)), .val (.int (0 : Int32)), .val (.ref b81), .val (.ref b92), .val (.ref b101), .unset, .unset, .unset, .unset, .unset] [(.int (0 : Int32)), (.ref b92)])) rfl rfl (hb hby at_231)) ?_
      refine own_st (fun _ k => XS.goto X141.here hx rfl (pc0 := 232) (pc' := 236) rfl (hb hby at_232) (by decide) (by decide) k) ?_
      refine own_st (fun _ k => XS.lstore X141.here hx rfl (hb hby at_236) rfl (l' := #[.val (.int u0), .val (.long u1), .second, .val (.long u2), .second, .val (.long (own_inv (-7046029254386353131 : Int64))), .second, .val (.int (1 : Int32)), .val (.int (0 : Int32)), .val (.ref b81), .val (.ref b92), .val (.ref b101), .val (.long (own_vf u2 0)), .second, .unset, .unset, .unset]) rfl k) ?_
      refine own_st (fun _ k => XS.aload X141.here hx rfl (hb hby at_238) rfl rfl k) ?_
      refine own_st (fun _ k => XS.aload X141.here hx rfl (hb hby at_240) rfl rfl k) ?_
      refine own_st (fun _ k => XS.iload X141.here hx rfl (hb hby at_242) rfl k) ?_
      show own_Go _ _ _ _ (T141.setTop (mkF m 244 #[.val (.int u0), .val (.long u1), .second, .val (.long u2), .second, .val (.long (own_inv (-7046029254386353131 : Int64))), .second, .val (.int (1 : Int32)), .val (.int (0 : Int32)), .val (.ref b81), .val (.ref b92), .val (.ref b101), .val (.long (own_vf u2 0)), .second, .unset, .unset, .unset] [(.int (0 : Int32)), (.ref b81), (.ref b101)]))
      obtain ⟨cl144, Ar144, -, Sz144, Nn144, Hs144, -⟩ := id z141_V_b81
      have hin144 : ¬ ((0 : Int32) < 0 ∨ cl144.slots.size ≤ ((0 : Int32)).toNatClampNeg) := inb_of Sz144 ⟨(by decide : ¬ ((0 : Int32) < (0 : Int32))), (by decide : (0 : Int32) < (5 : Int32))⟩
      have hat144 : cl144.slots[((0 : Int32)).toNatClampNeg]? = some (.long (own_kf u0 u1 0)) := Hs144.at hin144 rfl
      refine own_st (X141.laload hx (j := (0 : Int32)) (v := (.long (own_kf u0 u1 0))) Ar144.1 (State.isArrayOf_alike hZ.alike Ar144.2.1) Ar144.2.2 hin144 hat144 (g := (mkF m 244 #[.val (.int u0), .val (.long u1), .second, .val (.long u2), .second, .val (.long (own_inv (-7046029254386353131 : Int64))), .second, .val (.int (1 : Int32)), .val (.int (0 : Int32)), .val (.ref b81), .val (.ref b92), .val (.ref b101), .val (.long (own_vf u2 0)), .second, .unset, .unset, .unset] [(.int (0 : Int32)), (.ref b81), (.ref b101)])) rfl rfl (hb hby at_244)) ?_
      show own_Go _ _ _ _ (T141.setTop (mkF m 245 #[.val (.int u0), .val (.long u1), .second, .val (.long u2), .second, .val (.long (own_inv (-7046029254386353131 : Int64))), .second, .val (.int (1 : Int32)), .val (.int (0 : Int32)), .val (.ref b81), .val (.ref b92), .val (.ref b101), .val (.long (own_vf u2 0)), .second, .unset, .unset, .unset] [(.long (own_kf u0 u1 0)), (.ref b101)]))
      obtain ⟨cq145, kq145, q145a, q145b, q145c⟩ := isOf hZ rfl z141_E_b101
      obtain ⟨_, _, ⟨T145, L145, k145, n145⟩, -, X145, ⟨Lc145, hQ145, l145, y145, z145⟩, st145⟩ := X141.virtualBack hx (y := (⟨"quillvax/store/LongMap", "remove", "(J)J"⟩ : MethodName)) (z := (⟨"quillvax/store/LongMap", "remove", "(J)J"⟩ : MethodName)) hown (mvT hZ (hw _ (List.mem_of_getElem? (i := 34) rfl))) (mvT hZ (hw _ (List.mem_of_getElem? (i := 35) rfl))) (notFace_of_selects (args := #[]) (mvT hZ (hw _ (List.mem_of_getElem? (i := 37) rfl)))) (mvT hZ (hw _ (List.mem_of_getElem? (i := 37) rfl))) (mvT hZ (hw _ (List.mem_of_getElem? (i := 36) rfl))) (by decide) (backOf (W := 0) (rm7 l Z a0 hw [] b101 ka102 wa102 kk102 kw102 KN WN (own_kf u0 u1 0) rr KR WR (1 : Int32) T141.heap n0 Z141 z141_E_b101 Fq141_keys Fq141_values Fq141_slotBits Fz141 VkN VwN gnb101 gnka102 gnwa102 neb101_ka102 neb101_wa102 nk102 rf (by rw [rz]; exact own_vnz u2 0 (by decide)) rm) hZ (hw _ (List.mem_of_getElem? (i := 38) rfl)) (hw _ (List.mem_of_getElem? (i := 16) rfl)) (by decide) (by decide)) q145a q145c (g := (mkF m 245 #[.val (.int u0), .val (.long u1), .second, .val (.long u2), .second, .val (.long (own_inv (-7046029254386353131 : Int64))), .second, .val (.int (1 : Int32)), .val (.int (0 : Int32)), .val (.ref b81), .val (.ref b92), .val (.ref b101), .val (.long (own_vf u2 0)), .second, .unset, .unset, .unset] [(.long (own_kf u0 u1 0)), (.ref b101)])) rfl (by rw [hml]; rfl) (Steps.refl _) (argsL := [(.long (own_kf u0 u1 0))]) (rest := []) (lenOf own_pd0 rfl) rfl (by show 2 * 0 + _ ≤ _; exact Nat.le_of_eq rfl) (hb hby at_245) (fun _ _ => ⟨rfl, rfl, (by decide : 5 + 0 ≤ _), (by decide : 45 + 0 ≤ _)⟩)
      dsimp only [Pt.U, Pt.locs, Pt.cells, Pt.slots] at X145 l145 y145 z145 st145 hQ145
      rw [l145, y145, z145] at X145
      obtain ⟨rfl, Nq145, Kq145, Eq145, Fq145_keys, Fq145_values, Fq145_slotBits, Vk145, Vw145⟩ := hQ145
      have N145 := Fr.app N141 Nq145
      refine own_tr st145 ?_
      have z145_V_b81 := z141_V_b81.keep Kq145 (ninS neb81_b101 (ninS neb81_ka102 (ninS neb81_wa102 nin0)))
      have z145_V_b92 := z141_V_b92.keep Kq145 (ninS neb92_b101 (ninS neb92_ka102 (ninS neb92_wa102 nin0)))
      have z145_E_b101 := z141_E_b101.keep Kq145
      have Z145 : n0 ≤ T145.heap.size := Nat.le_trans Z141 Kq145.1
      have Kk145 : Keep h0 T145.heap [] := Kk141.trans Kq145 (allS (Or.inr gkb101) (allS (Or.inr gkka102) (allS (Or.inr gkwa102) all0)))
      refine own_st (fun _ k => XS.lstore X145.here hx rfl (hb hby at_248) rfl (l' := #[.val (.int u0), .val (.long u1), .second, .val (.long u2), .second, .val (.long (own_inv (-7046029254386353131 : Int64))), .second, .val (.int (1 : Int32)), .val (.int (0 : Int32)), .val (.ref b81), .val (.ref b92), .val (.ref b101), .val (.long (own_vf u2 0)), .second, .val (.long (WN rr)), .second, .unset]) rfl k) ?_
      refine own_st (fun _ k => XS.lload X145.here hx rfl (hb hby at_250) rfl k) ?_
      refine own_st (fun _ k => XS.lload X145.here hx rfl (hb hby at_252) rfl k) ?_
      show own_Go _ _ _ _ (T145.setTop (mkF m 254 #[.val (.int u0), .val (.long u1), .second, .val (.long u2), .second, .val (.long (own_inv (-7046029254386353131 : Int64))), .second, .val (.int (1 : Int32)), .val (.int (0 : Int32)), .val (.ref b81), .val (.ref b92), .val (.ref b101), .val (.long (own_vf u2 0)), .second, .val (.long (WN rr)), .second, .unset] [(.long (own_vf u2 0)), (.long (WN rr))]))
      refine own_st (fun _ k => XS.lcmp X145.here hx rfl (hb hby at_254) rfl k) ?_
      show own_Go _ _ _ _ (T145.setTop (mkF m 255 #[.val (.int u0), .val (.long u1), .second, .val (.long u2), .second, .val (.long (own_inv (-7046029254386353131 : Int64))), .second, .val (.int (1 : Int32)), .val (.int (0 : Int32)), .val (.ref b81), .val (.ref b92), .val (.ref b101), .val (.long (own_vf u2 0)), .second, .val (.long (WN rr)), .second, .unset] [(.int (lcmpW (WN rr) (own_vf u2 0)))]))
      refine own_st (fun _ k => XS.ifNo X145.here hx rfl (hb hby at_255) rfl ((if0 _ _).trans (teq ((lw_eq _ _).mpr rz)).2) k) ?_
      refine own_st (fun _ k => XS.iconst X145.here hx rfl (hb hby at_258) k) ?_
      refine own_st (fun _ k => XS.goto X145.here hx rfl (pc0 := 259) (pc' := 263) rfl (hb hby at_259) (by decide) (by decide) k) ?_
      refine own_st (fun _ k => XS.istore X145.here hx rfl (hb hby at_263) rfl (l' := #[.val (.int u0), .val (.long u1), .second, .val (.long u2), .second, .val (.long (own_inv (-7046029254386353131 : Int64))), .second, .val (.int (1 : Int32)), .val (.int (0 : Int32)), .val (.ref b81), .val (.ref b92), .val (.ref b101), .val (.long (own_vf u2 0)), .second, .val (.long (WN rr)), .second, .val (.int (1 : Int32))]) rfl k) ?_
      show own_Go _ _ _ _ (T145.setTop (mkF m 265 #[.val (.int u0), .val (.long u1), .second, .val (.long u2), .second, .val (.long (own_inv (-7046029254386353131 : Int64))), .second, .val (.int (1 : Int32)), .val (.int (0 : Int32)), .val (.ref b81), .val (.ref b92), .val (.ref b101), .val (.long (own_vf u2 0)), .second, .val (.long (WN rr)), .second, .val (.int (1 : Int32))] []))
      refine TAIL _ _ _ _ _ _ g0 g1 g2 g3 _ _ _ _ X145 rfl Vk145 Vw145 z145_E_b101 Fq145_keys Fq145_values Fq145_slotBits z145_V_b81 z145_V_b92 N145 Z145 gf0 (by rw [if_pos (by decide), if_pos rfl]; exact ga0_ (by decide)) gf1 (by rw [if_neg (by decide)]; exact ga1_ (by decide)) gf2 (by rw [if_neg (by decide)]; exact ga2_ (by decide)) gf3 (by rw [if_neg (by decide)]; exact ga3_ (by decide)) ?_
      intro TM lcM XM NM
      show own_Go _ _ _ _ (TM.setTop (mkF m 446 #[.val (.int u0), .val (.long u1), .second, .val (.long u2), .second, .val (.long (own_inv (-7046029254386353131 : Int64))), .second, .val (.int (1 : Int32)), .val (.int (0 : Int32)), .val (.ref b81), .val (.ref b92), .val (.ref b101), .val (.long (own_vf u2 0)), .second, .val (.long (WN rr)), .second, .val (.int (1 : Int32))] [(.int (1 : Int32))]))
      obtain ⟨fs, hr, hrun, hended, hW, hsame⟩ := XM.leave (v := some (.int (1 : Int32))) (fun h => by rw [Bd.returns] at h; cases h)
      refine own_out (retN XM hx (t := .boolean) Bd.returns (by simp) (hb hby at_446) hr) ⟨hrun, hended, _, _, rfl, ?_, ⟨_, rfl⟩, hW, hsame.mono (by decide) (by decide)⟩
      show Q0 Z u0 u1 u2 h0 n0 _ TM.heap _
      exact ⟨rfl, NM⟩
    · skip
      rw [hs142]
      have HT := own_H4 u0 u1 u2
      obtain ⟨ts, tq, es, er, eg0, eg1, eg2, eg3⟩ := own_chkE (own_c11 _ (own_offN u0 0).1 _ (own_offN u0 1).1 _ (own_offN u0 2).1 _ (own_offN u0 3).1)
      have ess : ts = tt := Option.some.inj (es.symm.trans etN)
      rw [ess] at er
      obtain ⟨rr, rf, rz, RQ⟩ := own_stepA HT RR1 (n := 1) (a := 1) (by decide) (by decide) er
      obtain ⟨g0, gf0, ga0_, gb0_⟩ := own_stepG HT RQ (q := 0) (by decide) eg0
      obtain ⟨g1, gf1, ga1_, gb1_⟩ := own_stepG HT RQ (q := 1) (by decide) eg1
      obtain ⟨g2, gf2, ga2_, gb2_⟩ := own_stepG HT RQ (q := 2) (by decide) eg2
      obtain ⟨g3, gf3, ga3_, gb3_⟩ := own_stepG HT RQ (q := 3) (by decide) eg3
      show own_Go _ _ _ _ (T141.setTop (mkF m 220 #[.val (.int u0), .val (.long u1), .second, .val (.long u2), .second, .val (.long (own_inv (-7046029254386353131 : Int64))), .second, .val (.int (1 : Int32)), .val (.int (1 : Int32)), .val (.ref b81), .val (.ref b92), .val (.ref b101), .unset, .unset, .unset, .unset, .unset] []))
      refine own_st (fun _ k => XS.iload X141.here hx rfl (hb hby at_220) rfl k) ?_
      refine own_st (fun _ k => XS.iload X141.here hx rfl (hb hby at_222) rfl k) ?_
      show own_Go _ _ _ _ (T141.setTop (mkF m 224 #[.val (.int u0), .val (.long u1), .second, .val (.long u2), .second, .val (.long (own_inv (-7046029254386353131 : Int64))), .second, .val (.int (1 : Int32)), .val (.int (1 : Int32)), .val (.ref b81), .val (.ref b92), .val (.ref b101), .unset, .unset, .unset, .unset, .unset] [(.int (1 : Int32)), (.int (1 : Int32))]))
      refine own_st (fun _ k => XS.icmpYes X141.here hx rfl (pc0 := 224) (pc' := 235) rfl (hb hby at_224) rfl (flt (by decide : ¬ ((1 : Int32) < (1 : Int32)))).2.1 (by decide) (by decide) k) ?_
      refine own_st (fun _ k => XS.lconst X141.here hx rfl (hb hby at_235) k) ?_
      refine own_st (fun _ k => XS.lstore X141.here hx rfl (hb hby at_236) rfl (l' := #[.val (.int u0), .val (.long u1), .second, .val (.long u2), .second, .val (.long (own_inv (-7046029254386353131 : Int64))), .second, .val (.int (1 : Int32)), .val (.int (1 : Int32)), .val (.ref b81), .val (.ref b92), .val (.ref b101), .val (.long (0 : Int64)), .second, .unset, .unset, .unset]) rfl k) ?_
      refine own_st (fun _ k => XS.aload X141.here hx rfl (hb hby at_238) rfl rfl k) ?_
      refine own_st (fun _ k => XS.aload X141.here hx rfl (hb hby at_240) rfl rfl k) ?_
      refine own_st (fun _ k => XS.iload X141.here hx rfl (hb hby at_242) rfl k) ?_
      show own_Go _ _ _ _ (T141.setTop (mkF m 244 #[.val (.int u0), .val (.long u1), .second, .val (.long u2), .second, .val (.long (own_inv (-7046029254386353131 : Int64))), .second, .val (.int (1 : Int32)), .val (.int (1 : Int32)), .val (.ref b81), .val (.ref b92), .val (.ref b101), .val (.long (0 : Int64)), .second, .unset, .unset, .unset] [(.int (1 : Int32)), (.ref b81), (.ref b101)]))
      obtain ⟨cl146, Ar146, -, Sz146, Nn146, Hs146, -⟩ := id z141_V_b81
      have hin146 : ¬ ((1 : Int32) < 0 ∨ cl146.slots.size ≤ ((1 : Int32)).toNatClampNeg) := inb_of Sz146 ⟨(by decide : ¬ ((1 : Int32) < (0 : Int32))), (by decide : (1 : Int32) < (5 : Int32))⟩
      have hat146 : cl146.slots[((1 : Int32)).toNatClampNeg]? = some (.long (own_kf u0 u1 1)) := Hs146.at hin146 rfl
      refine own_st (X141.laload hx (j := (1 : Int32)) (v := (.long (own_kf u0 u1 1))) Ar146.1 (State.isArrayOf_alike hZ.alike Ar146.2.1) Ar146.2.2 hin146 hat146 (g := (mkF m 244 #[.val (.int u0), .val (.long u1), .second, .val (.long u2), .second, .val (.long (own_inv (-7046029254386353131 : Int64))), .second, .val (.int (1 : Int32)), .val (.int (1 : Int32)), .val (.ref b81), .val (.ref b92), .val (.ref b101), .val (.long (0 : Int64)), .second, .unset, .unset, .unset] [(.int (1 : Int32)), (.ref b81), (.ref b101)])) rfl rfl (hb hby at_244)) ?_
      show own_Go _ _ _ _ (T141.setTop (mkF m 245 #[.val (.int u0), .val (.long u1), .second, .val (.long u2), .second, .val (.long (own_inv (-7046029254386353131 : Int64))), .second, .val (.int (1 : Int32)), .val (.int (1 : Int32)), .val (.ref b81), .val (.ref b92), .val (.ref b101), .val (.long (0 : Int64)), .second, .unset, .unset, .unset] [(.long (own_kf u0 u1 1)), (.ref b101)]))
      obtain ⟨cq147, kq147, q147a, q147b, q147c⟩ := isOf hZ rfl z141_E_b101
      obtain ⟨_, _, ⟨T147, L147, k147, n147⟩, -, X147, ⟨Lc147, hQ147, l147, y147, z147⟩, st147⟩ := X141.virtualBack hx (y := (⟨"quillvax/store/LongMap", "remove", "(J)J"⟩ : MethodName)) (z := (⟨"quillvax/store/LongMap", "remove", "(J)J"⟩ : MethodName)) hown (mvT hZ (hw _ (List.mem_of_getElem? (i := 34) rfl))) (mvT hZ (hw _ (List.mem_of_getElem? (i := 35) rfl))) (notFace_of_selects (args := #[]) (mvT hZ (hw _ (List.mem_of_getElem? (i := 37) rfl)))) (mvT hZ (hw _ (List.mem_of_getElem? (i := 37) rfl))) (mvT hZ (hw _ (List.mem_of_getElem? (i := 36) rfl))) (by decide) (backOf (W := 0) (rm7a l Z a0 hw [] b101 ka102 wa102 kk102 kw102 KN WN (own_kf u0 u1 1) rr T141.heap n0 Z141 z141_E_b101 Fq141_keys Fq141_values Fq141_slotBits VkN VwN rf rz) hZ (hw _ (List.mem_of_getElem? (i := 38) rfl)) (hw _ (List.mem_of_getElem? (i := 16) rfl)) (by decide) (by decide)) q147a q147c (g := (mkF m 245 #[.val (.int u0), .val (.long u1), .second, .val (.long u2), .second, .val (.long (own_inv (-7046029254386353131 : Int64))), .second, .val (.int (1 : Int32)), .val (.int (1 : Int32)), .val (.ref b81), .val (.ref b92), .val (.ref b101), .val (.long (0 : Int64)), .second, .unset, .unset, .unset] [(.long (own_kf u0 u1 1)), (.ref b101)])) rfl (by rw [hml]; rfl) (Steps.refl _) (argsL := [(.long (own_kf u0 u1 1))]) (rest := []) (lenOf own_pd0 rfl) rfl (by show 2 * 0 + _ ≤ _; exact Nat.le_of_eq rfl) (hb hby at_245) (fun _ _ => ⟨rfl, rfl, (by decide : 5 + 0 ≤ _), (by decide : 45 + 0 ≤ _)⟩)
      dsimp only [Pt.U, Pt.locs, Pt.cells, Pt.slots] at X147 l147 y147 z147 st147 hQ147
      rw [l147, y147, z147] at X147
      obtain ⟨rfl, Nq147, eq147⟩ := hQ147
      have N147 := Fr.app N141 Nq147
      refine own_tr st147 ?_
      refine own_st (fun _ k => XS.lstore X147.here hx rfl (hb hby at_248) rfl (l' := #[.val (.int u0), .val (.long u1), .second, .val (.long u2), .second, .val (.long (own_inv (-7046029254386353131 : Int64))), .second, .val (.int (1 : Int32)), .val (.int (1 : Int32)), .val (.ref b81), .val (.ref b92), .val (.ref b101), .val (.long (0 : Int64)), .second, .val (.long (0 : Int64)), .second, .unset]) rfl k) ?_
      refine own_st (fun _ k => XS.lload X147.here hx rfl (hb hby at_250) rfl k) ?_
      refine own_st (fun _ k => XS.lload X147.here hx rfl (hb hby at_252) rfl k) ?_
      show own_Go _ _ _ _ (T147.setTop (mkF m 254 #[.val (.int u0), .val (.long u1), .second, .val (.long u2), .second, .val (.long (own_inv (-7046029254386353131 : Int64))), .second, .val (.int (1 : Int32)), .val (.int (1 : Int32)), .val (.ref b81), .val (.ref b92), .val (.ref b101), .val (.long (0 : Int64)), .second, .val (.long (0 : Int64)), .second, .unset] [(.long (0 : Int64)), (.long (0 : Int64))]))
      refine own_st (fun _ k => XS.lcmp X147.here hx rfl (hb hby at_254) rfl k) ?_
      show own_Go _ _ _ _ (T147.setTop (mkF m 255 #[.val (.int u0), .val (.long u1), .second, .val (.long u2), .second, .val (.long (own_inv (-7046029254386353131 : Int64))), .second, .val (.int (1 : Int32)), .val (.int (1 : Int32)), .val (.ref b81), .val (.ref b92), .val (.ref b101), .val (.long (0 : Int64)), .second, .val (.long (0 : Int64)), .second, .unset] [(.int (lcmpW (0 : Int64) (0 : Int64)))]))
      rw [show (lcmpW (0 : Int64) (0 : Int64)) = (0 : Int32) from by decide]
      show own_Go _ _ _ _ (T147.setTop (mkF m 255 #[.val (.int u0), .val (.long u1), .second, .val (.long u2), .second, .val (.long (own_inv (-7046029254386353131 : Int64))), .second, .val (.int (1 : Int32)), .val (.int (1 : Int32)), .val (.ref b81), .val (.ref b92), .val (.ref b101), .val (.long (0 : Int64)), .second, .val (.long (0 : Int64)), .second, .unset] [(.int (0 : Int32))]))
      refine own_st (fun _ k => XS.ifNo X147.here hx rfl (hb hby at_255) rfl ((if0 _ _).trans (teq (by decide : ((0 : Int32) = (0 : Int32)))).2) k) ?_
      refine own_st (fun _ k => XS.iconst X147.here hx rfl (hb hby at_258) k) ?_
      refine own_st (fun _ k => XS.goto X147.here hx rfl (pc0 := 259) (pc' := 263) rfl (hb hby at_259) (by decide) (by decide) k) ?_
      refine own_st (fun _ k => XS.istore X147.here hx rfl (hb hby at_263) rfl (l' := #[.val (.int u0), .val (.long u1), .second, .val (.long u2), .second, .val (.long (own_inv (-7046029254386353131 : Int64))), .second, .val (.int (1 : Int32)), .val (.int (1 : Int32)), .val (.ref b81), .val (.ref b92), .val (.ref b101), .val (.long (0 : Int64)), .second, .val (.long (0 : Int64)), .second, .val (.int (1 : Int32))]) rfl k) ?_
      show own_Go _ _ _ _ (T147.setTop (mkF m 265 #[.val (.int u0), .val (.long u1), .second, .val (.long u2), .second, .val (.long (own_inv (-7046029254386353131 : Int64))), .second, .val (.int (1 : Int32)), .val (.int (1 : Int32)), .val (.ref b81), .val (.ref b92), .val (.ref b101), .val (.long (0 : Int64)), .second, .val (.long (0 : Int64)), .second, .val (.int (1 : Int32))] []))
      refine TAIL _ _ _ _ _ _ g0 g1 g2 g3 _ _ _ _ X147 eq147 VkN VwN z141_E_b101 Fq141_keys Fq141_values Fq141_slotBits z141_V_b81 z141_V_b92 N147 Z141 gf0 (by rw [if_pos (by decide), if_neg (by decide)]; exact gb0_ (by decide)) gf1 (by rw [if_neg (by decide)]; exact ga1_ (by decide)) gf2 (by rw [if_neg (by decide)]; exact ga2_ (by decide)) gf3 (by rw [if_neg (by decide)]; exact ga3_ (by decide)) ?_
      intro TM lcM XM NM
      show own_Go _ _ _ _ (TM.setTop (mkF m 446 #[.val (.int u0), .val (.long u1), .second, .val (.long u2), .second, .val (.long (own_inv (-7046029254386353131 : Int64))), .second, .val (.int (1 : Int32)), .val (.int (1 : Int32)), .val (.ref b81), .val (.ref b92), .val (.ref b101), .val (.long (0 : Int64)), .second, .val (.long (0 : Int64)), .second, .val (.int (1 : Int32))] [(.int (1 : Int32))]))
      obtain ⟨fs, hr, hrun, hended, hW, hsame⟩ := XM.leave (v := some (.int (1 : Int32))) (fun h => by rw [Bd.returns] at h; cases h)
      refine own_out (retN XM hx (t := .boolean) Bd.returns (by simp) (hb hby at_446) hr) ⟨hrun, hended, _, _, rfl, ?_, ⟨_, rfl⟩, hW, hsame.mono (by decide) (by decide)⟩
      show Q0 Z u0 u1 u2 h0 n0 _ TM.heap _
      exact ⟨rfl, NM⟩
    · skip
      rw [hs142]
      have HT := own_H4 u0 u1 u2
      obtain ⟨ts, tq, es, er, eg0, eg1, eg2, eg3⟩ := own_chkE (own_c12 _ (own_offN u0 0).1 _ (own_offN u0 1).1 _ (own_offN u0 2).1 _ (own_offN u0 3).1)
      have ess : ts = tt := Option.some.inj (es.symm.trans etN)
      rw [ess] at er
      obtain ⟨rr, rf, rz, RQ⟩ := own_stepA HT RR1 (n := 1) (a := 2) (by decide) (by decide) er
      obtain ⟨g0, gf0, ga0_, gb0_⟩ := own_stepG HT RQ (q := 0) (by decide) eg0
      obtain ⟨g1, gf1, ga1_, gb1_⟩ := own_stepG HT RQ (q := 1) (by decide) eg1
      obtain ⟨g2, gf2, ga2_, gb2_⟩ := own_stepG HT RQ (q := 2) (by decide) eg2
      obtain ⟨g3, gf3, ga3_, gb3_⟩ := own_stepG HT RQ (q := 3) (by decide) eg3
      show own_Go _ _ _ _ (T141.setTop (mkF m 220 #[.val (.int u0), .val (.long u1), .second, .val (.long u2), .second, .val (.long (own_inv (-7046029254386353131 : Int64))), .second, .val (.int (1 : Int32)), .val (.int (2 : Int32)), .val (.ref b81), .val (.ref b92), .val (.ref b101), .unset, .unset, .unset, .unset, .unset] []))
      refine own_st (fun _ k => XS.iload X141.here hx rfl (hb hby at_220) rfl k) ?_
      refine own_st (fun _ k => XS.iload X141.here hx rfl (hb hby at_222) rfl k) ?_
      show own_Go _ _ _ _ (T141.setTop (mkF m 224 #[.val (.int u0), .val (.long u1), .second, .val (.long u2), .second, .val (.long (own_inv (-7046029254386353131 : Int64))), .second, .val (.int (1 : Int32)), .val (.int (2 : Int32)), .val (.ref b81), .val (.ref b92), .val (.ref b101), .unset, .unset, .unset, .unset, .unset] [(.int (1 : Int32)), (.int (2 : Int32))]))
      refine own_st (fun _ k => XS.icmpYes X141.here hx rfl (pc0 := 224) (pc' := 235) rfl (hb hby at_224) rfl (flt (by decide : ¬ ((2 : Int32) < (1 : Int32)))).2.1 (by decide) (by decide) k) ?_
      refine own_st (fun _ k => XS.lconst X141.here hx rfl (hb hby at_235) k) ?_
      refine own_st (fun _ k => XS.lstore X141.here hx rfl (hb hby at_236) rfl (l' := #[.val (.int u0), .val (.long u1), .second, .val (.long u2), .second, .val (.long (own_inv (-7046029254386353131 : Int64))), .second, .val (.int (1 : Int32)), .val (.int (2 : Int32)), .val (.ref b81), .val (.ref b92), .val (.ref b101), .val (.long (0 : Int64)), .second, .unset, .unset, .unset]) rfl k) ?_
      refine own_st (fun _ k => XS.aload X141.here hx rfl (hb hby at_238) rfl rfl k) ?_
      refine own_st (fun _ k => XS.aload X141.here hx rfl (hb hby at_240) rfl rfl k) ?_
      refine own_st (fun _ k => XS.iload X141.here hx rfl (hb hby at_242) rfl k) ?_
      show own_Go _ _ _ _ (T141.setTop (mkF m 244 #[.val (.int u0), .val (.long u1), .second, .val (.long u2), .second, .val (.long (own_inv (-7046029254386353131 : Int64))), .second, .val (.int (1 : Int32)), .val (.int (2 : Int32)), .val (.ref b81), .val (.ref b92), .val (.ref b101), .val (.long (0 : Int64)), .second, .unset, .unset, .unset] [(.int (2 : Int32)), (.ref b81), (.ref b101)]))
      obtain ⟨cl148, Ar148, -, Sz148, Nn148, Hs148, -⟩ := id z141_V_b81
      have hin148 : ¬ ((2 : Int32) < 0 ∨ cl148.slots.size ≤ ((2 : Int32)).toNatClampNeg) := inb_of Sz148 ⟨(by decide : ¬ ((2 : Int32) < (0 : Int32))), (by decide : (2 : Int32) < (5 : Int32))⟩
      have hat148 : cl148.slots[((2 : Int32)).toNatClampNeg]? = some (.long (own_kf u0 u1 2)) := Hs148.at hin148 rfl
      refine own_st (X141.laload hx (j := (2 : Int32)) (v := (.long (own_kf u0 u1 2))) Ar148.1 (State.isArrayOf_alike hZ.alike Ar148.2.1) Ar148.2.2 hin148 hat148 (g := (mkF m 244 #[.val (.int u0), .val (.long u1), .second, .val (.long u2), .second, .val (.long (own_inv (-7046029254386353131 : Int64))), .second, .val (.int (1 : Int32)), .val (.int (2 : Int32)), .val (.ref b81), .val (.ref b92), .val (.ref b101), .val (.long (0 : Int64)), .second, .unset, .unset, .unset] [(.int (2 : Int32)), (.ref b81), (.ref b101)])) rfl rfl (hb hby at_244)) ?_
      show own_Go _ _ _ _ (T141.setTop (mkF m 245 #[.val (.int u0), .val (.long u1), .second, .val (.long u2), .second, .val (.long (own_inv (-7046029254386353131 : Int64))), .second, .val (.int (1 : Int32)), .val (.int (2 : Int32)), .val (.ref b81), .val (.ref b92), .val (.ref b101), .val (.long (0 : Int64)), .second, .unset, .unset, .unset] [(.long (own_kf u0 u1 2)), (.ref b101)]))
      obtain ⟨cq149, kq149, q149a, q149b, q149c⟩ := isOf hZ rfl z141_E_b101
      obtain ⟨_, _, ⟨T149, L149, k149, n149⟩, -, X149, ⟨Lc149, hQ149, l149, y149, z149⟩, st149⟩ := X141.virtualBack hx (y := (⟨"quillvax/store/LongMap", "remove", "(J)J"⟩ : MethodName)) (z := (⟨"quillvax/store/LongMap", "remove", "(J)J"⟩ : MethodName)) hown (mvT hZ (hw _ (List.mem_of_getElem? (i := 34) rfl))) (mvT hZ (hw _ (List.mem_of_getElem? (i := 35) rfl))) (notFace_of_selects (args := #[]) (mvT hZ (hw _ (List.mem_of_getElem? (i := 37) rfl)))) (mvT hZ (hw _ (List.mem_of_getElem? (i := 37) rfl))) (mvT hZ (hw _ (List.mem_of_getElem? (i := 36) rfl))) (by decide) (backOf (W := 0) (rm7a l Z a0 hw [] b101 ka102 wa102 kk102 kw102 KN WN (own_kf u0 u1 2) rr T141.heap n0 Z141 z141_E_b101 Fq141_keys Fq141_values Fq141_slotBits VkN VwN rf rz) hZ (hw _ (List.mem_of_getElem? (i := 38) rfl)) (hw _ (List.mem_of_getElem? (i := 16) rfl)) (by decide) (by decide)) q149a q149c (g := (mkF m 245 #[.val (.int u0), .val (.long u1), .second, .val (.long u2), .second, .val (.long (own_inv (-7046029254386353131 : Int64))), .second, .val (.int (1 : Int32)), .val (.int (2 : Int32)), .val (.ref b81), .val (.ref b92), .val (.ref b101), .val (.long (0 : Int64)), .second, .unset, .unset, .unset] [(.long (own_kf u0 u1 2)), (.ref b101)])) rfl (by rw [hml]; rfl) (Steps.refl _) (argsL := [(.long (own_kf u0 u1 2))]) (rest := []) (lenOf own_pd0 rfl) rfl (by show 2 * 0 + _ ≤ _; exact Nat.le_of_eq rfl) (hb hby at_245) (fun _ _ => ⟨rfl, rfl, (by decide : 5 + 0 ≤ _), (by decide : 45 + 0 ≤ _)⟩)
      dsimp only [Pt.U, Pt.locs, Pt.cells, Pt.slots] at X149 l149 y149 z149 st149 hQ149
      rw [l149, y149, z149] at X149
      obtain ⟨rfl, Nq149, eq149⟩ := hQ149
      have N149 := Fr.app N141 Nq149
      refine own_tr st149 ?_
      refine own_st (fun _ k => XS.lstore X149.here hx rfl (hb hby at_248) rfl (l' := #[.val (.int u0), .val (.long u1), .second, .val (.long u2), .second, .val (.long (own_inv (-7046029254386353131 : Int64))), .second, .val (.int (1 : Int32)), .val (.int (2 : Int32)), .val (.ref b81), .val (.ref b92), .val (.ref b101), .val (.long (0 : Int64)), .second, .val (.long (0 : Int64)), .second, .unset]) rfl k) ?_
      refine own_st (fun _ k => XS.lload X149.here hx rfl (hb hby at_250) rfl k) ?_
      refine own_st (fun _ k => XS.lload X149.here hx rfl (hb hby at_252) rfl k) ?_
      show own_Go _ _ _ _ (T149.setTop (mkF m 254 #[.val (.int u0), .val (.long u1), .second, .val (.long u2), .second, .val (.long (own_inv (-7046029254386353131 : Int64))), .second, .val (.int (1 : Int32)), .val (.int (2 : Int32)), .val (.ref b81), .val (.ref b92), .val (.ref b101), .val (.long (0 : Int64)), .second, .val (.long (0 : Int64)), .second, .unset] [(.long (0 : Int64)), (.long (0 : Int64))]))
      refine own_st (fun _ k => XS.lcmp X149.here hx rfl (hb hby at_254) rfl k) ?_
      show own_Go _ _ _ _ (T149.setTop (mkF m 255 #[.val (.int u0), .val (.long u1), .second, .val (.long u2), .second, .val (.long (own_inv (-7046029254386353131 : Int64))), .second, .val (.int (1 : Int32)), .val (.int (2 : Int32)), .val (.ref b81), .val (.ref b92), .val (.ref b101), .val (.long (0 : Int64)), .second, .val (.long (0 : Int64)), .second, .unset] [(.int (lcmpW (0 : Int64) (0 : Int64)))]))
      rw [show (lcmpW (0 : Int64) (0 : Int64)) = (0 : Int32) from by decide]
      show own_Go _ _ _ _ (T149.setTop (mkF m 255 #[.val (.int u0), .val (.long u1), .second, .val (.long u2), .second, .val (.long (own_inv (-7046029254386353131 : Int64))), .second, .val (.int (1 : Int32)), .val (.int (2 : Int32)), .val (.ref b81), .val (.ref b92), .val (.ref b101), .val (.long (0 : Int64)), .second, .val (.long (0 : Int64)), .second, .unset] [(.int (0 : Int32))]))
      refine own_st (fun _ k => XS.ifNo X149.here hx rfl (hb hby at_255) rfl ((if0 _ _).trans (teq (by decide : ((0 : Int32) = (0 : Int32)))).2) k) ?_
      refine own_st (fun _ k => XS.iconst X149.here hx rfl (hb hby at_258) k) ?_
      refine own_st (fun _ k => XS.goto X149.here hx rfl (pc0 := 259) (pc' := 263) rfl (hb hby at_259) (by decide) (by decide) k) ?_
      refine own_st (fun _ k => XS.istore X149.here hx rfl (hb hby at_263) rfl (l' := #[.val (.int u0), .val (.long u1), .second, .val (.long u2), .second, .val (.long (own_inv (-7046029254386353131 : Int64))), .second, .val (.int (1 : Int32)), .val (.int (2 : Int32)), .val (.ref b81), .val (.ref b92), .val (.ref b101), .val (.long (0 : Int64)), .second, .val (.long (0 : Int64)), .second, .val (.int (1 : Int32))]) rfl k) ?_
      show own_Go _ _ _ _ (T149.setTop (mkF m 265 #[.val (.int u0), .val (.long u1), .second, .val (.long u2), .second, .val (.long (own_inv (-7046029254386353131 : Int64))), .second, .val (.int (1 : Int32)), .val (.int (2 : Int32)), .val (.ref b81), .val (.ref b92), .val (.ref b101), .val (.long (0 : Int64)), .second, .val (.long (0 : Int64)), .second, .val (.int (1 : Int32))] []))
      refine TAIL _ _ _ _ _ _ g0 g1 g2 g3 _ _ _ _ X149 eq149 VkN VwN z141_E_b101 Fq141_keys Fq141_values Fq141_slotBits z141_V_b81 z141_V_b92 N149 Z141 gf0 (by rw [if_pos (by decide), if_neg (by decide)]; exact gb0_ (by decide)) gf1 (by rw [if_neg (by decide)]; exact ga1_ (by decide)) gf2 (by rw [if_neg (by decide)]; exact ga2_ (by decide)) gf3 (by rw [if_neg (by decide)]; exact ga3_ (by decide)) ?_
      intro TM lcM XM NM
      show own_Go _ _ _ _ (TM.setTop (mkF m 446 #[.val (.int u0), .val (.long u1), .second, .val (.long u2), .second, .val (.long (own_inv (-7046029254386353131 : Int64))), .second, .val (.int (1 : Int32)), .val (.int (2 : Int32)), .val (.ref b81), .val (.ref b92), .val (.ref b101), .val (.long (0 : Int64)), .second, .val (.long (0 : Int64)), .second, .val (.int (1 : Int32))] [(.int (1 : Int32))]))
      obtain ⟨fs, hr, hrun, hended, hW, hsame⟩ := XM.leave (v := some (.int (1 : Int32))) (fun h => by rw [Bd.returns] at h; cases h)
      refine own_out (retN XM hx (t := .boolean) Bd.returns (by simp) (hb hby at_446) hr) ⟨hrun, hended, _, _, rfl, ?_, ⟨_, rfl⟩, hW, hsame.mono (by decide) (by decide)⟩
      show Q0 Z u0 u1 u2 h0 n0 _ TM.heap _
      exact ⟨rfl, NM⟩
    · skip
      rw [hs142]
      have HT := own_H4 u0 u1 u2
      obtain ⟨ts, tq, es, er, eg0, eg1, eg2, eg3⟩ := own_chkE (own_c13 _ (own_offN u0 0).1 _ (own_offN u0 1).1 _ (own_offN u0 2).1 _ (own_offN u0 3).1)
      have ess : ts = tt := Option.some.inj (es.symm.trans etN)
      rw [ess] at er
      obtain ⟨rr, rf, rz, RQ⟩ := own_stepA HT RR1 (n := 1) (a := 3) (by decide) (by decide) er
      obtain ⟨g0, gf0, ga0_, gb0_⟩ := own_stepG HT RQ (q := 0) (by decide) eg0
      obtain ⟨g1, gf1, ga1_, gb1_⟩ := own_stepG HT RQ (q := 1) (by decide) eg1
      obtain ⟨g2, gf2, ga2_, gb2_⟩ := own_stepG HT RQ (q := 2) (by decide) eg2
      obtain ⟨g3, gf3, ga3_, gb3_⟩ := own_stepG HT RQ (q := 3) (by decide) eg3
      show own_Go _ _ _ _ (T141.setTop (mkF m 220 #[.val (.int u0), .val (.long u1), .second, .val (.long u2), .second, .val (.long (own_inv (-7046029254386353131 : Int64))), .second, .val (.int (1 : Int32)), .val (.int (3 : Int32)), .val (.ref b81), .val (.ref b92), .val (.ref b101), .unset, .unset, .unset, .unset, .unset] []))
      refine own_st (fun _ k => XS.iload X141.here hx rfl (hb hby at_220) rfl k) ?_
      refine own_st (fun _ k => XS.iload X141.here hx rfl (hb hby at_222) rfl k) ?_
      show own_Go _ _ _ _ (T141.setTop (mkF m 224 #[.val (.int u0), .val (.long u1), .second, .val (.long u2), .second, .val (.long (own_inv (-7046029254386353131 : Int64))), .second, .val (.int (1 : Int32)), .val (.int (3 : Int32)), .val (.ref b81), .val (.ref b92), .val (.ref b101), .unset, .unset, .unset, .unset, .unset] [(.int (1 : Int32)), (.int (3 : Int32))]))
      refine own_st (fun _ k => XS.icmpYes X141.here hx rfl (pc0 := 224) (pc' := 235) rfl (hb hby at_224) rfl (flt (by decide : ¬ ((3 : Int32) < (1 : Int32)))).2.1 (by decide) (by decide) k) ?_
      refine own_st (fun _ k => XS.lconst X141.here hx rfl (hb hby at_235) k) ?_
      refine own_st (fun _ k => XS.lstore X141.here hx rfl (hb hby at_236) rfl (l' := #[.val (.int u0), .val (.long u1), .second, .val (.long u2), .second, .val (.long (own_inv (-7046029254386353131 : Int64))), .second, .val (.int (1 : Int32)), .val (.int (3 : Int32)), .val (.ref b81), .val (.ref b92), .val (.ref b101), .val (.long (0 : Int64)), .second, .unset, .unset, .unset]) rfl k) ?_
      refine own_st (fun _ k => XS.aload X141.here hx rfl (hb hby at_238) rfl rfl k) ?_
      refine own_st (fun _ k => XS.aload X141.here hx rfl (hb hby at_240) rfl rfl k) ?_
      refine own_st (fun _ k => XS.iload X141.here hx rfl (hb hby at_242) rfl k) ?_
      show own_Go _ _ _ _ (T141.setTop (mkF m 244 #[.val (.int u0), .val (.long u1), .second, .val (.long u2), .second, .val (.long (own_inv (-7046029254386353131 : Int64))), .second, .val (.int (1 : Int32)), .val (.int (3 : Int32)), .val (.ref b81), .val (.ref b92), .val (.ref b101), .val (.long (0 : Int64)), .second, .unset, .unset, .unset] [(.int (3 : Int32)), (.ref b81), (.ref b101)]))
      obtain ⟨cl150, Ar150, -, Sz150, Nn150, Hs150, -⟩ := id z141_V_b81
      have hin150 : ¬ ((3 : Int32) < 0 ∨ cl150.slots.size ≤ ((3 : Int32)).toNatClampNeg) := inb_of Sz150 ⟨(by decide : ¬ ((3 : Int32) < (0 : Int32))), (by decide : (3 : Int32) < (5 : Int32))⟩
      have hat150 : cl150.slots[((3 : Int32)).toNatClampNeg]? = some (.long (own_kf u0 u1 3)) := Hs150.at hin150 rfl
      refine own_st (X141.laload hx (j := (3 : Int32)) (v := (.long (own_kf u0 u1 3))) Ar150.1 (State.isArrayOf_alike hZ.alike Ar150.2.1) Ar150.2.2 hin150 hat150 (g := (mkF m 244 #[.val (.int u0), .val (.long u1), .second, .val (.long u2), .second, .val (.long (own_inv (-7046029254386353131 : Int64))), .second, .val (.int (1 : Int32)), .val (.int (3 : Int32)), .val (.ref b81), .val (.ref b92), .val (.ref b101), .val (.long (0 : Int64)), .second, .unset, .unset, .unset] [(.int (3 : Int32)), (.ref b81), (.ref b101)])) rfl rfl (hb hby at_244)) ?_
      show own_Go _ _ _ _ (T141.setTop (mkF m 245 #[.val (.int u0), .val (.long u1), .second, .val (.long u2), .second, .val (.long (own_inv (-7046029254386353131 : Int64))), .second, .val (.int (1 : Int32)), .val (.int (3 : Int32)), .val (.ref b81), .val (.ref b92), .val (.ref b101), .val (.long (0 : Int64)), .second, .unset, .unset, .unset] [(.long (own_kf u0 u1 3)), (.ref b101)]))
      obtain ⟨cq151, kq151, q151a, q151b, q151c⟩ := isOf hZ rfl z141_E_b101
      obtain ⟨_, _, ⟨T151, L151, k151, n151⟩, -, X151, ⟨Lc151, hQ151, l151, y151, z151⟩, st151⟩ := X141.virtualBack hx (y := (⟨"quillvax/store/LongMap", "remove", "(J)J"⟩ : MethodName)) (z := (⟨"quillvax/store/LongMap", "remove", "(J)J"⟩ : MethodName)) hown (mvT hZ (hw _ (List.mem_of_getElem? (i := 34) rfl))) (mvT hZ (hw _ (List.mem_of_getElem? (i := 35) rfl))) (notFace_of_selects (args := #[]) (mvT hZ (hw _ (List.mem_of_getElem? (i := 37) rfl)))) (mvT hZ (hw _ (List.mem_of_getElem? (i := 37) rfl))) (mvT hZ (hw _ (List.mem_of_getElem? (i := 36) rfl))) (by decide) (backOf (W := 0) (rm7a l Z a0 hw [] b101 ka102 wa102 kk102 kw102 KN WN (own_kf u0 u1 3) rr T141.heap n0 Z141 z141_E_b101 Fq141_keys Fq141_values Fq141_slotBits VkN VwN rf rz) hZ (hw _ (List.mem_of_getElem? (i := 38) rfl)) (hw _ (List.mem_of_getElem? (i := 16) rfl)) (by decide) (by decide)) q151a q151c (g := (mkF m 245 #[.val (.int u0), .val (.long u1), .second, .val (.long u2), .second, .val (.long (own_inv (-7046029254386353131 : Int64))), .second, .val (.int (1 : Int32)), .val (.int (3 : Int32)), .val (.ref b81), .val (.ref b92), .val (.ref b101), .val (.long (0 : Int64)), .second, .unset, .unset, .unset] [(.long (own_kf u0 u1 3)), (.ref b101)])) rfl (by rw [hml]; rfl) (Steps.refl _) (argsL := [(.long (own_kf u0 u1 3))]) (rest := []) (lenOf own_pd0 rfl) rfl (by show 2 * 0 + _ ≤ _; exact Nat.le_of_eq rfl) (hb hby at_245) (fun _ _ => ⟨rfl, rfl, (by decide : 5 + 0 ≤ _), (by decide : 45 + 0 ≤ _)⟩)
      dsimp only [Pt.U, Pt.locs, Pt.cells, Pt.slots] at X151 l151 y151 z151 st151 hQ151
      rw [l151, y151, z151] at X151
      obtain ⟨rfl, Nq151, eq151⟩ := hQ151
      have N151 := Fr.app N141 Nq151
      refine own_tr st151 ?_
      refine own_st (fun _ k => XS.lstore X151.here hx rfl (hb hby at_248) rfl (l' := #[.val (.int u0), .val (.long u1), .second, .val (.long u2), .second, .val (.long (own_inv (-7046029254386353131 : Int64))), .second, .val (.int (1 : Int32)), .val (.int (3 : Int32)), .val (.ref b81), .val (.ref b92), .val (.ref b101), .val (.long (0 : Int64)), .second, .val (.long (0 : Int64)), .second, .unset]) rfl k) ?_
      refine own_st (fun _ k => XS.lload X151.here hx rfl (hb hby at_250) rfl k) ?_
      refine own_st (fun _ k => XS.lload X151.here hx rfl (hb hby at_252) rfl k) ?_
      show own_Go _ _ _ _ (T151.setTop (mkF m 254 #[.val (.int u0), .val (.long u1), .second, .val (.long u2), .second, .val (.long (own_inv (-7046029254386353131 : Int64))), .second, .val (.int (1 : Int32)), .val (.int (3 : Int32)), .val (.ref b81), .val (.ref b92), .val (.ref b101), .val (.long (0 : Int64)), .second, .val (.long (0 : Int64)), .second, .unset] [(.long (0 : Int64)), (.long (0 : Int64))]))
      refine own_st (fun _ k => XS.lcmp X151.here hx rfl (hb hby at_254) rfl k) ?_
      show own_Go _ _ _ _ (T151.setTop (mkF m 255 #[.val (.int u0), .val (.long u1), .second, .val (.long u2), .second, .val (.long (own_inv (-7046029254386353131 : Int64))), .second, .val (.int (1 : Int32)), .val (.int (3 : Int32)), .val (.ref b81), .val (.ref b92), .val (.ref b101), .val (.long (0 : Int64)), .second, .val (.long (0 : Int64)), .second, .unset] [(.int (lcmpW (0 : Int64) (0 : Int64)))]))
      rw [show (lcmpW (0 : Int64) (0 : Int64)) = (0 : Int32) from by decide]
      show own_Go _ _ _ _ (T151.setTop (mkF m 255 #[.val (.int u0), .val (.long u1), .second, .val (.long u2), .second, .val (.long (own_inv (-7046029254386353131 : Int64))), .second, .val (.int (1 : Int32)), .val (.int (3 : Int32)), .val (.ref b81), .val (.ref b92), .val (.ref b101), .val (.long (0 : Int64)), .second, .val (.long (0 : Int64)), .second, .unset] [(.int (0 : Int32))]))
      refine own_st (fun _ k => XS.ifNo X151.here hx rfl (hb hby at_255) rfl ((if0 _ _).trans (teq (by decide : ((0 : Int32) = (0 : Int32)))).2) k) ?_
      refine own_st (fun _ k => XS.iconst X151.here hx rfl (hb hby at_258) k) ?_
      refine own_st (fun _ k => XS.goto X151.here hx rfl (pc0 := 259) (pc' := 263) rfl (hb hby at_259) (by decide) (by decide) k) ?_
      refine own_st (fun _ k => XS.istore X151.here hx rfl (hb hby at_263) rfl (l' := #[.val (.int u0), .val (.long u1), .second, .val (.long u2), .second, .val (.long (own_inv (-7046029254386353131 : Int64))), .second, .val (.int (1 : Int32)), .val (.int (3 : Int32)), .val (.ref b81), .val (.ref b92), .val (.ref b101), .val (.long (0 : Int64)), .second, .val (.long (0 : Int64)), .second, .val (.int (1 : Int32))]) rfl k) ?_
      show own_Go _ _ _ _ (T151.setTop (mkF m 265 #[.val (.int u0), .val (.long u1), .second, .val (.long u2), .second, .val (.long (own_inv (-7046029254386353131 : Int64))), .second, .val (.int (1 : Int32)), .val (.int (3 : Int32)), .val (.ref b81), .val (.ref b92), .val (.ref b101), .val (.long (0 : Int64)), .second, .val (.long (0 : Int64)), .second, .val (.int (1 : Int32))] []))
      refine TAIL _ _ _ _ _ _ g0 g1 g2 g3 _ _ _ _ X151 eq151 VkN VwN z141_E_b101 Fq141_keys Fq141_values Fq141_slotBits z141_V_b81 z141_V_b92 N151 Z141 gf0 (by rw [if_pos (by decide), if_neg (by decide)]; exact gb0_ (by decide)) gf1 (by rw [if_neg (by decide)]; exact ga1_ (by decide)) gf2 (by rw [if_neg (by decide)]; exact ga2_ (by decide)) gf3 (by rw [if_neg (by decide)]; exact ga3_ (by decide)) ?_
      intro TM lcM XM NM
      show own_Go _ _ _ _ (TM.setTop (mkF m 446 #[.val (.int u0), .val (.long u1), .second, .val (.long u2), .second, .val (.long (own_inv (-7046029254386353131 : Int64))), .second, .val (.int (1 : Int32)), .val (.int (3 : Int32)), .val (.ref b81), .val (.ref b92), .val (.ref b101), .val (.long (0 : Int64)), .second, .val (.long (0 : Int64)), .second, .val (.int (1 : Int32))] [(.int (1 : Int32))]))
      obtain ⟨fs, hr, hrun, hended, hW, hsame⟩ := XM.leave (v := some (.int (1 : Int32))) (fun h => by rw [Bd.returns] at h; cases h)
      refine own_out (retN XM hx (t := .boolean) Bd.returns (by simp) (hb hby at_446) hr) ⟨hrun, hended, _, _, rfl, ?_, ⟨_, rfl⟩, hW, hsame.mono (by decide) (by decide)⟩
      show Q0 Z u0 u1 u2 h0 n0 _ TM.heap _
      exact ⟨rfl, NM⟩
    · skip
      rw [hs142]
      have HT := own_H5 u0 u1 u2
      obtain ⟨ts, tq, es, er, eg0, eg1, eg2, eg3⟩ := own_chkE (own_c14 _ (own_offN u0 0).1 _ (own_offN u0 1).1 _ (own_offN u0 2).1 _ (own_offN u0 3).1 _ (own_offN u0 4).1)
      have ess : ts = tt := Option.some.inj (es.symm.trans etN)
      rw [ess] at er
      obtain ⟨rr, rf, rz, RQ⟩ := own_stepA HT RR1 (n := 1) (a := 4) (by decide) (by decide) er
      obtain ⟨g0, gf0, ga0_, gb0_⟩ := own_stepG HT RQ (q := 0) (by decide) eg0
      obtain ⟨g1, gf1, ga1_, gb1_⟩ := own_stepG HT RQ (q := 1) (by decide) eg1
      obtain ⟨g2, gf2, ga2_, gb2_⟩ := own_stepG HT RQ (q := 2) (by decide) eg2
      obtain ⟨g3, gf3, ga3_, gb3_⟩ := own_stepG HT RQ (q := 3) (by decide) eg3
      show own_Go _ _ _ _ (T141.setTop (mkF m 220 #[.val (.int u0), .val (.long u1), .second, .val (.long u2), .second, .val (.long (own_inv (-7046029254386353131 : Int64))), .second, .val (.int (1 : Int32)), .val (.int (4 : Int32)), .val (.ref b81), .val (.ref b92), .val (.ref b101), .unset, .unset, .unset, .unset, .unset] []))
      refine own_st (fun _ k => XS.iload X141.here hx rfl (hb hby at_220) rfl k) ?_
      refine own_st (fun _ k => XS.iload X141.here hx rfl (hb hby at_222) rfl k) ?_
      show own_Go _ _ _ _ (T141.setTop (mkF m 224 #[.val (.int u0), .val (.long u1), .second, .val (.long u2), .second, .val (.long (own_inv (-7046029254386353131 : Int64))), .second, .val (.int (1 : Int32)), .val (.int (4 : Int32)), .val (.ref b81), .val (.ref b92), .val (.ref b101), .unset, .unset, .unset, .unset, .unset] [(.int (1 : Int32)), (.int (4 : Int32))]))
      refine own_st (fun _ k => XS.icmpYes X141.here hx rfl (pc0 := 224) (pc' := 235) rfl (hb hby at_224) rfl (flt (by decide : ¬ ((4 : Int32) < (1 : Int32)))).2.1 (by decide) (by decide) k) ?_
      refine own_st (fun _ k => XS.lconst X141.here hx rfl (hb hby at_235) k) ?_
      refine own_st (fun _ k => XS.lstore X141.here hx rfl (hb hby at_236) rfl (l' := #[.val (.int u0), .val (.long u1), .second, .val (.long u2), .second, .val (.long (own_inv (-7046029254386353131 : Int64))), .second, .val (.int (1 : Int32)), .val (.int (4 : Int32)), .val (.ref b81), .val (.ref b92), .val (.ref b101), .val (.long (0 : Int64)), .second, .unset, .unset, .unset]) rfl k) ?_
      refine own_st (fun _ k => XS.aload X141.here hx rfl (hb hby at_238) rfl rfl k) ?_
      refine own_st (fun _ k => XS.aload X141.here hx rfl (hb hby at_240) rfl rfl k) ?_
      refine own_st (fun _ k => XS.iload X141.here hx rfl (hb hby at_242) rfl k) ?_
      show own_Go _ _ _ _ (T141.setTop (mkF m 244 #[.val (.int u0), .val (.long u1), .second, .val (.long u2), .second, .val (.long (own_inv (-7046029254386353131 : Int64))), .second, .val (.int (1 : Int32)), .val (.int (4 : Int32)), .val (.ref b81), .val (.ref b92), .val (.ref b101), .val (.long (0 : Int64)), .second, .unset, .unset, .unset] [(.int (4 : Int32)), (.ref b81), (.ref b101)]))
      obtain ⟨cl152, Ar152, -, Sz152, Nn152, Hs152, -⟩ := id z141_V_b81
      have hin152 : ¬ ((4 : Int32) < 0 ∨ cl152.slots.size ≤ ((4 : Int32)).toNatClampNeg) := inb_of Sz152 ⟨(by decide : ¬ ((4 : Int32) < (0 : Int32))), (by decide : (4 : Int32) < (5 : Int32))⟩
      have hat152 : cl152.slots[((4 : Int32)).toNatClampNeg]? = some (.long (own_kf u0 u1 4)) := Hs152.at hin152 rfl
      refine own_st (X141.laload hx (j := (4 : Int32)) (v := (.long (own_kf u0 u1 4))) Ar152.1 (State.isArrayOf_alike hZ.alike Ar152.2.1) Ar152.2.2 hin152 hat152 (g := (mkF m 244 #[.val (.int u0), .val (.long u1), .second, .val (.long u2), .second, .val (.long (own_inv (-7046029254386353131 : Int64))), .second, .val (.int (1 : Int32)), .val (.int (4 : Int32)), .val (.ref b81), .val (.ref b92), .val (.ref b101), .val (.long (0 : Int64)), .second, .unset, .unset, .unset] [(.int (4 : Int32)), (.ref b81), (.ref b101)])) rfl rfl (hb hby at_244)) ?_
      show own_Go _ _ _ _ (T141.setTop (mkF m 245 #[.val (.int u0), .val (.long u1), .second, .val (.long u2), .second, .val (.long (own_inv (-7046029254386353131 : Int64))), .second, .val (.int (1 : Int32)), .val (.int (4 : Int32)), .val (.ref b81), .val (.ref b92), .val (.ref b101), .val (.long (0 : Int64)), .second, .unset, .unset, .unset] [(.long (own_kf u0 u1 4)), (.ref b101)]))
      obtain ⟨cq153, kq153, q153a, q153b, q153c⟩ := isOf hZ rfl z141_E_b101
      obtain ⟨_, _, ⟨T153, L153, k153, n153⟩, -, X153, ⟨Lc153, hQ153, l153, y153, z153⟩, st153⟩ := X141.virtualBack hx (y := (⟨"quillvax/store/LongMap", "remove", "(J)J"⟩ : MethodName)) (z := (⟨"quillvax/store/LongMap", "remove", "(J)J"⟩ : MethodName)) hown (mvT hZ (hw _ (List.mem_of_getElem? (i := 34) rfl))) (mvT hZ (hw _ (List.mem_of_getElem? (i := 35) rfl))) (notFace_of_selects (args := #[]) (mvT hZ (hw _ (List.mem_of_getElem? (i := 37) rfl)))) (mvT hZ (hw _ (List.mem_of_getElem? (i := 37) rfl))) (mvT hZ (hw _ (List.mem_of_getElem? (i := 36) rfl))) (by decide) (backOf (W := 0) (rm7a l Z a0 hw [] b101 ka102 wa102 kk102 kw102 KN WN (own_kf u0 u1 4) rr T141.heap n0 Z141 z141_E_b101 Fq141_keys Fq141_values Fq141_slotBits VkN VwN rf rz) hZ (hw _ (List.mem_of_getElem? (i := 38) rfl)) (hw _ (List.mem_of_getElem? (i := 16) rfl)) (by decide) (by decide)) q153a q153c (g := (mkF m 245 #[.val (.int u0), .val (.long u1), .second, .val (.long u2), .second, .val (.long (own_inv (-7046029254386353131 : Int64))), .second, .val (.int (1 : Int32)), .val (.int (4 : Int32)), .val (.ref b81), .val (.ref b92), .val (.ref b101), .val (.long (0 : Int64)), .second, .unset, .unset, .unset] [(.long (own_kf u0 u1 4)), (.ref b101)])) rfl (by rw [hml]; rfl) (Steps.refl _) (argsL := [(.long (own_kf u0 u1 4))]) (rest := []) (lenOf own_pd0 rfl) rfl (by show 2 * 0 + _ ≤ _; exact Nat.le_of_eq rfl) (hb hby at_245) (fun _ _ => ⟨rfl, rfl, (by decide : 5 + 0 ≤ _), (by decide : 45 + 0 ≤ _)⟩)
      dsimp only [Pt.U, Pt.locs, Pt.cells, Pt.slots] at X153 l153 y153 z153 st153 hQ153
      rw [l153, y153, z153] at X153
      obtain ⟨rfl, Nq153, eq153⟩ := hQ153
      have N153 := Fr.app N141 Nq153
      refine own_tr st153 ?_
      refine own_st (fun _ k => XS.lstore X153.here hx rfl (hb hby at_248) rfl (l' := #[.val (.int u0), .val (.long u1), .second, .val (.long u2), .second, .val (.long (own_inv (-7046029254386353131 : Int64))), .second, .val (.int (1 : Int32)), .val (.int (4 : Int32)), .val (.ref b81), .val (.ref b92), .val (.ref b101), .val (.long (0 : Int64)), .second, .val (.long (0 : Int64)), .second, .unset]) rfl k) ?_
      refine own_st (fun _ k => XS.lload X153.here hx rfl (hb hby at_250) rfl k) ?_
      refine own_st (fun _ k => XS.lload X153.here hx rfl (hb hby at_252) rfl k) ?_
      show own_Go _ _ _ _ (T153.setTop (mkF m 254 #[.val (.int u0), .val (.long u1), .second, .val (.long u2), .second, .val (.long (own_inv (-7046029254386353131 : Int64))), .second, .val (.int (1 : Int32)), .val (.int (4 : Int32)), .val (.ref b81), .val (.ref b92), .val (.ref b101), .val (.long (0 : Int64)), .second, .val (.long (0 : Int64)), .second, .unset] [(.long (0 : Int64)), (.long (0 : Int64))]))
      refine own_st (fun _ k => XS.lcmp X153.here hx rfl (hb hby at_254) rfl k) ?_
      show own_Go _ _ _ _ (T153.setTop (mkF m 255 #[.val (.int u0), .val (.long u1), .second, .val (.long u2), .second, .val (.long (own_inv (-7046029254386353131 : Int64))), .second, .val (.int (1 : Int32)), .val (.int (4 : Int32)), .val (.ref b81), .val (.ref b92), .val (.ref b101), .val (.long (0 : Int64)), .second, .val (.long (0 : Int64)), .second, .unset] [(.int (lcmpW (0 : Int64) (0 : Int64)))]))
      rw [show (lcmpW (0 : Int64) (0 : Int64)) = (0 : Int32) from by decide]
      show own_Go _ _ _ _ (T153.setTop (mkF m 255 #[.val (.int u0), .val (.long u1), .second, .val (.long u2), .second, .val (.long (own_inv (-7046029254386353131 : Int64))), .second, .val (.int (1 : Int32)), .val (.int (4 : Int32)), .val (.ref b81), .val (.ref b92), .val (.ref b101), .val (.long (0 : Int64)), .second, .val (.long (0 : Int64)), .second, .unset] [(.int (0 : Int32))]))
      refine own_st (fun _ k => XS.ifNo X153.here hx rfl (hb hby at_255) rfl ((if0 _ _).trans (teq (by decide : ((0 : Int32) = (0 : Int32)))).2) k) ?_
      refine own_st (fun _ k => XS.iconst X153.here hx rfl (hb hby at_258) k) ?_
      refine own_st (fun _ k => XS.goto X153.here hx rfl (pc0 := 259) (pc' := 263) rfl (hb hby at_259) (by decide) (by decide) k) ?_
      refine own_st (fun _ k => XS.istore X153.here hx rfl (hb hby at_263) rfl (l' := #[.val (.int u0), .val (.long u1), .second, .val (.long u2), .second, .val (.long (own_inv (-7046029254386353131 : Int64))), .second, .val (.int (1 : Int32)), .val (.int (4 : Int32)), .val (.ref b81), .val (.ref b92), .val (.ref b101), .val (.long (0 : Int64)), .second, .val (.long (0 : Int64)), .second, .val (.int (1 : Int32))]) rfl k) ?_
      show own_Go _ _ _ _ (T153.setTop (mkF m 265 #[.val (.int u0), .val (.long u1), .second, .val (.long u2), .second, .val (.long (own_inv (-7046029254386353131 : Int64))), .second, .val (.int (1 : Int32)), .val (.int (4 : Int32)), .val (.ref b81), .val (.ref b92), .val (.ref b101), .val (.long (0 : Int64)), .second, .val (.long (0 : Int64)), .second, .val (.int (1 : Int32))] []))
      refine TAIL _ _ _ _ _ _ g0 g1 g2 g3 _ _ _ _ X153 eq153 VkN VwN z141_E_b101 Fq141_keys Fq141_values Fq141_slotBits z141_V_b81 z141_V_b92 N153 Z141 gf0 (by rw [if_pos (by decide), if_neg (by decide)]; exact gb0_ (by decide)) gf1 (by rw [if_neg (by decide)]; exact ga1_ (by decide)) gf2 (by rw [if_neg (by decide)]; exact ga2_ (by decide)) gf3 (by rw [if_neg (by decide)]; exact ga3_ (by decide)) ?_
      intro TM lcM XM NM
      show own_Go _ _ _ _ (TM.setTop (mkF m 446 #[.val (.int u0), .val (.long u1), .second, .val (.long u2), .second, .val (.long (own_inv (-7046029254386353131 : Int64))), .second, .val (.int (1 : Int32)), .val (.int (4 : Int32)), .val (.ref b81), .val (.ref b92), .val (.ref b101), .val (.long (0 : Int64)), .second, .val (.long (0 : Int64)), .second, .val (.int (1 : Int32))] [(.int (1 : Int32))]))
      obtain ⟨fs, hr, hrun, hended, hW, hsame⟩ := XM.leave (v := some (.int (1 : Int32))) (fun h => by rw [Bd.returns] at h; cases h)
      refine own_out (retN XM hx (t := .boolean) Bd.returns (by simp) (hb hby at_446) hr) ⟨hrun, hended, _, _, rfl, ?_, ⟨_, rfl⟩, hW, hsame.mono (by decide) (by decide)⟩
      show Q0 Z u0 u1 u2 h0 n0 _ TM.heap _
      exact ⟨rfl, NM⟩
  · skip
    rw [hs127]
    have HH := own_H5 u0 u1 u2
    obtain ⟨tt, -, et2, -⟩ := own_chkE (own_c24 _ (own_offN u0 0).1 _ (own_offN u0 1).1 _ (own_offN u0 2).1 _ (own_offN u0 3).1 _ (own_offN u0 4).1)
    have etN := et2
    obtain ⟨tb1, jb1, et1, ef1, ez1, es1⟩ := own_tblS et2
    obtain ⟨tb0, jb0, et0, ef0, ez0, es0⟩ := own_tblS et1
    have RR0 := own_R0 (own_kf u0 u1) (own_vf u2) (own_base u0)
    have eb0 : tb0 = List.replicate 16 0 := (Option.some.inj et0).symm
    rw [← eb0] at RR0
    obtain ⟨r0, f0, z0, RR1⟩ := own_stepP HH RR0 (a := 0) (by decide) ef0 ez0 es0
    obtain ⟨r1, f1, z1, RR2⟩ := own_stepP HH RR1 (a := 1) (by decide) ef1 ez1 es1
    obtain ⟨KN, eKN⟩ : ∃ z, (own_upd (own_upd own_z r0 (own_kf u0 u1 0)) r1 (own_kf u0 u1 1)) = z := ⟨_, rfl⟩
    obtain ⟨WN, eWN⟩ : ∃ z, (own_upd (own_upd own_z r0 (own_vf u2 0)) r1 (own_vf u2 1)) = z := ⟨_, rfl⟩
    rw [eKN, eWN] at RR2
    show own_Go _ _ _ _ (T102.setTop (mkF m 145 #[.val (.int u0), .val (.long u1), .second, .val (.long u2), .second, .val (.long (own_inv (-7046029254386353131 : Int64))), .second, .val (.int (2 : Int32)), .val (.int ((((u0.toUInt32 >>> ((14 : Int32) &&& 31).toUInt32).toInt32) &&& (7 : Int32)) - ((((u0.toUInt32 >>> ((14 : Int32) &&& 31).toUInt32).toInt32) &&& (7 : Int32)) / (5 : Int32)) * (5 : Int32))), .val (.ref b81), .val (.ref b92), .val (.ref b101), .unset, .unset, .unset, .unset, .unset] []))
    refine own_st (fun _ k => XS.iload X102.here hx rfl (hb hby at_145) rfl k) ?_
    show own_Go _ _ _ _ (T102.setTop (mkF m 147 #[.val (.int u0), .val (.long u1), .second, .val (.long u2), .second, .val (.long (own_inv (-7046029254386353131 : Int64))), .second, .val (.int (2 : Int32)), .val (.int ((((u0.toUInt32 >>> ((14 : Int32) &&& 31).toUInt32).toInt32) &&& (7 : Int32)) - ((((u0.toUInt32 >>> ((14 : Int32) &&& 31).toUInt32).toInt32) &&& (7 : Int32)) / (5 : Int32)) * (5 : Int32))), .val (.ref b81), .val (.ref b92), .val (.ref b101), .unset, .unset, .unset, .unset, .unset] [(.int (2 : Int32))]))
    refine own_st (fun _ k => XS.ifNo X102.here hx rfl (hb hby at_147) rfl ((if0 _ _).trans (tlt (by decide : ((0 : Int32) < (2 : Int32)))).2.2.2) k) ?_
    refine own_st (fun _ k => XS.aload X102.here hx rfl (hb hby at_150) rfl rfl k) ?_
    refine own_st (fun _ k => XS.aload X102.here hx rfl (hb hby at_152) rfl rfl k) ?_
    refine own_st (fun _ k => XS.iconst X102.here hx rfl (hb hby at_154) k) ?_
    show own_Go _ _ _ _ (T102.setTop (mkF m 155 #[.val (.int u0), .val (.long u1), .second, .val (.long u2), .second, .val (.long (own_inv (-7046029254386353131 : Int64))), .second, .val (.int (2 : Int32)), .val (.int ((((u0.toUInt32 >>> ((14 : Int32) &&& 31).toUInt32).toInt32) &&& (7 : Int32)) - ((((u0.toUInt32 >>> ((14 : Int32) &&& 31).toUInt32).toInt32) &&& (7 : Int32)) / (5 : Int32)) * (5 : Int32))), .val (.ref b81), .val (.ref b92), .val (.ref b101), .unset, .unset, .unset, .unset, .unset] [(.int (0 : Int32)), (.ref b81), (.ref b101)]))
    obtain ⟨cl154, Ar154, -, Sz154, Nn154, Hs154, -⟩ := id z102_V_b81
    have hin154 : ¬ ((0 : Int32) < 0 ∨ cl154.slots.size ≤ ((0 : Int32)).toNatClampNeg) := inb_of Sz154 ⟨(by decide : ¬ ((0 : Int32) < (0 : Int32))), (by decide : (0 : Int32) < (5 : Int32))⟩
    have hat154 : cl154.slots[((0 : Int32)).toNatClampNeg]? = some (.long (own_kf u0 u1 0)) := Hs154.at hin154 rfl
    refine own_st (X102.laload hx (j := (0 : Int32)) (v := (.long (own_kf u0 u1 0))) Ar154.1 (State.isArrayOf_alike hZ.alike Ar154.2.1) Ar154.2.2 hin154 hat154 (g := (mkF m 155 #[.val (.int u0), .val (.long u1), .second, .val (.long u2), .second, .val (.long (own_inv (-7046029254386353131 : Int64))), .second, .val (.int (2 : Int32)), .val (.int ((((u0.toUInt32 >>> ((14 : Int32) &&& 31).toUInt32).toInt32) &&& (7 : Int32)) - ((((u0.toUInt32 >>> ((14 : Int32) &&& 31).toUInt32).toInt32) &&& (7 : Int32)) / (5 : Int32)) * (5 : Int32))), .val (.ref b81), .val (.ref b92), .val (.ref b101), .unset, .unset, .unset, .unset, .unset] [(.int (0 : Int32)), (.ref b81), (.ref b101)])) rfl rfl (hb hby at_155)) ?_
    refine own_st (fun _ k => XS.aload X102.here hx rfl (hb hby at_156) rfl rfl k) ?_
    refine own_st (fun _ k => XS.iconst X102.here hx rfl (hb hby at_158) k) ?_
    show own_Go _ _ _ _ (T102.setTop (mkF m 159 #[.val (.int u0), .val (.long u1), .second, .val (.long u2), .second, .val (.long (own_inv (-7046029254386353131 : Int64))), .second, .val (.int (2 : Int32)), .val (.int ((((u0.toUInt32 >>> ((14 : Int32) &&& 31).toUInt32).toInt32) &&& (7 : Int32)) - ((((u0.toUInt32 >>> ((14 : Int32) &&& 31).toUInt32).toInt32) &&& (7 : Int32)) / (5 : Int32)) * (5 : Int32))), .val (.ref b81), .val (.ref b92), .val (.ref b101), .unset, .unset, .unset, .unset, .unset] [(.int (0 : Int32)), (.ref b92), (.long (own_kf u0 u1 0)), (.ref b101)]))
    obtain ⟨cl155, Ar155, -, Sz155, Nn155, Hs155, -⟩ := id z102_V_b92
    have hin155 : ¬ ((0 : Int32) < 0 ∨ cl155.slots.size ≤ ((0 : Int32)).toNatClampNeg) := inb_of Sz155 ⟨(by decide : ¬ ((0 : Int32) < (0 : Int32))), (by decide : (0 : Int32) < (4 : Int32))⟩
    have hat155 : cl155.slots[((0 : Int32)).toNatClampNeg]? = some (.long (own_vf u2 0)) := Hs155.at hin155 rfl
    refine own_st (X102.laload hx (j := (0 : Int32)) (v := (.long (own_vf u2 0))) Ar155.1 (State.isArrayOf_alike hZ.alike Ar155.2.1) Ar155.2.2 hin155 hat155 (g := (mkF m 159 #[.val (.int u0), .val (.long u1), .second, .val (.long u2), .second, .val (.long (own_inv (-7046029254386353131 : Int64))), .second, .val (.int (2 : Int32)), .val (.int ((((u0.toUInt32 >>> ((14 : Int32) &&& 31).toUInt32).toInt32) &&& (7 : Int32)) - ((((u0.toUInt32 >>> ((14 : Int32) &&& 31).toUInt32).toInt32) &&& (7 : Int32)) / (5 : Int32)) * (5 : Int32))), .val (.ref b81), .val (.ref b92), .val (.ref b101), .unset, .unset, .unset, .unset, .unset] [(.int (0 : Int32)), (.ref b92), (.long (own_kf u0 u1 0)), (.ref b101)])) rfl rfl (hb hby at_159)) ?_
    show own_Go _ _ _ _ (T102.setTop (mkF m 160 #[.val (.int u0), .val (.long u1), .second, .val (.long u2), .second, .val (.long (own_inv (-7046029254386353131 : Int64))), .second, .val (.int (2 : Int32)), .val (.int ((((u0.toUInt32 >>> ((14 : Int32) &&& 31).toUInt32).toInt32) &&& (7 : Int32)) - ((((u0.toUInt32 >>> ((14 : Int32) &&& 31).toUInt32).toInt32) &&& (7 : Int32)) / (5 : Int32)) * (5 : Int32))), .val (.ref b81), .val (.ref b92), .val (.ref b101), .unset, .unset, .unset, .unset, .unset] [(.long (own_vf u2 0)), (.long (own_kf u0 u1 0)), (.ref b101)]))
    obtain ⟨cq156, kq156, q156a, q156b, q156c⟩ := isOf hZ rfl z102_E_b101
    obtain ⟨_, _, ⟨T156, L156, k156, n156⟩, -, X156, ⟨Lc156, hQ156, l156, y156, z156⟩, st156⟩ := X102.virtualBack hx (y := (⟨"quillvax/store/LongMap", "put", "(JJ)V"⟩ : MethodName)) (z := (⟨"quillvax/store/LongMap", "put", "(JJ)V"⟩ : MethodName)) hown (mvT hZ (hw _ (List.mem_of_getElem? (i := 53) rfl))) (mvT hZ (hw _ (List.mem_of_getElem? (i := 54) rfl))) (notFace_of_selects (args := #[]) (mvT hZ (hw _ (List.mem_of_getElem? (i := 56) rfl)))) (mvT hZ (hw _ (List.mem_of_getElem? (i := 56) rfl))) (mvT hZ (hw _ (List.mem_of_getElem? (i := 55) rfl))) (by decide) (backOf (W := 0) (rm11 l Z a0 hw [] b101 ka102 wa102 kk102 kw102 own_z own_z (own_kf u0 u1 0) (own_vf u2 0) r0 (0 : Int32) T102.heap n0 Z102 z102_E_b101 Fq102_keys Fq102_values Fq102_slotBits Fq102_size Vk102 Vw102 gnb101 gnka102 gnwa102 neb101_ka102 neb101_wa102 nk102 f0 (fun q => own_vnz u2 0 (by decide) ((lw_eq _ _).mp q)) z0 (by decide)) hZ (hw _ (List.mem_of_getElem? (i := 57) rfl)) (hw _ (List.mem_of_getElem? (i := 16) rfl)) (by decide) (by decide)) q156a q156c (g := (mkF m 160 #[.val (.int u0), .val (.long u1), .second, .val (.long u2), .second, .val (.long (own_inv (-7046029254386353131 : Int64))), .second, .val (.int (2 : Int32)), .val (.int ((((u0.toUInt32 >>> ((14 : Int32) &&& 31).toUInt32).toInt32) &&& (7 : Int32)) - ((((u0.toUInt32 >>> ((14 : Int32) &&& 31).toUInt32).toInt32) &&& (7 : Int32)) / (5 : Int32)) * (5 : Int32))), .val (.ref b81), .val (.ref b92), .val (.ref b101), .unset, .unset, .unset, .unset, .unset] [(.long (own_vf u2 0)), (.long (own_kf u0 u1 0)), (.ref b101)])) rfl (by rw [hml]; rfl) (Steps.refl _) (argsL := [(.long (own_kf u0 u1 0)), (.long (own_vf u2 0))]) (rest := []) (lenOf own_pd8 rfl) rfl (by show 2 * 0 + _ ≤ _; exact Nat.le_of_eq rfl) (hb hby at_160) (fun _ _ => ⟨rfl, rfl, (by decide : 5 + 0 ≤ _), (by decide : 45 + 0 ≤ _)⟩)
    dsimp only [Pt.U, Pt.locs, Pt.cells, Pt.slots] at X156 l156 y156 z156 st156 hQ156
    rw [l156, y156, z156] at X156
    obtain ⟨rfl, Nq156, Kq156, Eq156, Fq156_keys, Fq156_values, Fq156_slotBits, Fq156_size, Vk156, Vw156⟩ := hQ156
    have N156 := Fr.app N102 Nq156
    refine own_tr st156 ?_
    have z156_V_b81 := z102_V_b81.keep Kq156 (ninS neb81_b101 (ninS neb81_ka102 (ninS neb81_wa102 nin0)))
    have z156_V_b92 := z102_V_b92.keep Kq156 (ninS neb92_b101 (ninS neb92_ka102 (ninS neb92_wa102 nin0)))
    have z156_E_b101 := z102_E_b101.keep Kq156
    have Z156 : n0 ≤ T156.heap.size := Nat.le_trans Z102 Kq156.1
    have Kk156 : Keep h0 T156.heap [] := Kk102.trans Kq156 (allS (Or.inr gkb101) (allS (Or.inr gkka102) (allS (Or.inr gkwa102) all0)))
    have Fz156 : Fld Z T156.heap b101 "quillvax/store/LongMap" "size" "I" (.int (1 : Int32)) := Fq156_size
    refine own_st (fun _ k => XS.iload X156.here hx rfl (hb hby at_163) rfl k) ?_
    refine own_st (fun _ k => XS.iconst X156.here hx rfl (hb hby at_165) k) ?_
    show own_Go _ _ _ _ (T156.setTop (mkF m 166 #[.val (.int u0), .val (.long u1), .second, .val (.long u2), .second, .val (.long (own_inv (-7046029254386353131 : Int64))), .second, .val (.int (2 : Int32)), .val (.int ((((u0.toUInt32 >>> ((14 : Int32) &&& 31).toUInt32).toInt32) &&& (7 : Int32)) - ((((u0.toUInt32 >>> ((14 : Int32) &&& 31).toUInt32).toInt32) &&& (7 : Int32)) / (5 : Int32)) * (5 : Int32))), .val (.ref b81), .val (.ref b92), .val (.ref b101), .unset, .unset, .unset, .unset, .unset] [(.int (1 : Int32)), (.int (2 : Int32))]))
    refine own_st (fun _ k => XS.icmpNo X156.here hx rfl (hb hby at_166) rfl (tlt (by decide : ((1 : Int32) < (2 : Int32)))).2.2.2 k) ?_
    refine own_st (fun _ k => XS.aload X156.here hx rfl (hb hby at_169) rfl rfl k) ?_
    refine own_st (fun _ k => XS.aload X156.here hx rfl (hb hby at_171) rfl rfl k) ?_
    refine own_st (fun _ k => XS.iconst X156.here hx rfl (hb hby at_173) k) ?_
    show own_Go _ _ _ _ (T156.setTop (mkF m 174 #[.val (.int u0), .val (.long u1), .second, .val (.long u2), .second, .val (.long (own_inv (-7046029254386353131 : Int64))), .second, .val (.int (2 : Int32)), .val (.int ((((u0.toUInt32 >>> ((14 : Int32) &&& 31).toUInt32).toInt32) &&& (7 : Int32)) - ((((u0.toUInt32 >>> ((14 : Int32) &&& 31).toUInt32).toInt32) &&& (7 : Int32)) / (5 : Int32)) * (5 : Int32))), .val (.ref b81), .val (.ref b92), .val (.ref b101), .unset, .unset, .unset, .unset, .unset] [(.int (1 : Int32)), (.ref b81), (.ref b101)]))
    obtain ⟨cl157, Ar157, -, Sz157, Nn157, Hs157, -⟩ := id z156_V_b81
    have hin157 : ¬ ((1 : Int32) < 0 ∨ cl157.slots.size ≤ ((1 : Int32)).toNatClampNeg) := inb_of Sz157 ⟨(by decide : ¬ ((1 : Int32) < (0 : Int32))), (by decide : (1 : Int32) < (5 : Int32))⟩
    have hat157 : cl157.slots[((1 : Int32)).toNatClampNeg]? = some (.long (own_kf u0 u1 1)) := Hs157.at hin157 rfl
    refine own_st (X156.laload hx (j := (1 : Int32)) (v := (.long (own_kf u0 u1 1))) Ar157.1 (State.isArrayOf_alike hZ.alike Ar157.2.1) Ar157.2.2 hin157 hat157 (g := (mkF m 174 #[.val (.int u0), .val (.long u1), .second, .val (.long u2), .second, .val (.long (own_inv (-7046029254386353131 : Int64))), .second, .val (.int (2 : Int32)), .val (.int ((((u0.toUInt32 >>> ((14 : Int32) &&& 31).toUInt32).toInt32) &&& (7 : Int32)) - ((((u0.toUInt32 >>> ((14 : Int32) &&& 31).toUInt32).toInt32) &&& (7 : Int32)) / (5 : Int32)) * (5 : Int32))), .val (.ref b81), .val (.ref b92), .val (.ref b101), .unset, .unset, .unset, .unset, .unset] [(.int (1 : Int32)), (.ref b81), (.ref b101)])) rfl rfl (hb hby at_174)) ?_
    refine own_st (fun _ k => XS.aload X156.here hx rfl (hb hby at_175) rfl rfl k) ?_
    refine own_st (fun _ k => XS.iconst X156.here hx rfl (hb hby at_177) k) ?_
    show own_Go _ _ _ _ (T156.setTop (mkF m 178 #[.val (.int u0), .val (.long u1), .second, .val (.long u2), .second, .val (.long (own_inv (-7046029254386353131 : Int64))), .second, .val (.int (2 : Int32)), .val (.int ((((u0.toUInt32 >>> ((14 : Int32) &&& 31).toUInt32).toInt32) &&& (7 : Int32)) - ((((u0.toUInt32 >>> ((14 : Int32) &&& 31).toUInt32).toInt32) &&& (7 : Int32)) / (5 : Int32)) * (5 : Int32))), .val (.ref b81), .val (.ref b92), .val (.ref b101), .unset, .unset, .unset, .unset, .unset] [(.int (1 : Int32)), (.ref b92), (.long (own_kf u0 u1 1)), (.ref b101)]))
    obtain ⟨cl158, Ar158, -, Sz158, Nn158, Hs158, -⟩ := id z156_V_b92
    have hin158 : ¬ ((1 : Int32) < 0 ∨ cl158.slots.size ≤ ((1 : Int32)).toNatClampNeg) := inb_of Sz158 ⟨(by decide : ¬ ((1 : Int32) < (0 : Int32))), (by decide : (1 : Int32) < (4 : Int32))⟩
    have hat158 : cl158.slots[((1 : Int32)).toNatClampNeg]? = some (.long (own_vf u2 1)) := Hs158.at hin158 rfl
    refine own_st (X156.laload hx (j := (1 : Int32)) (v := (.long (own_vf u2 1))) Ar158.1 (State.isArrayOf_alike hZ.alike Ar158.2.1) Ar158.2.2 hin158 hat158 (g := (mkF m 178 #[.val (.int u0), .val (.long u1), .second, .val (.long u2), .second, .val (.long (own_inv (-7046029254386353131 : Int64))), .second, .val (.int (2 : Int32)), .val (.int ((((u0.toUInt32 >>> ((14 : Int32) &&& 31).toUInt32).toInt32) &&& (7 : Int32)) - ((((u0.toUInt32 >>> ((14 : Int32) &&& 31).toUInt32).toInt32) &&& (7 : Int32)) / (5 : Int32)) * (5 : Int32))), .val (.ref b81), .val (.ref b92), .val (.ref b101), .unset, .unset, .unset, .unset, .unset] [(.int (1 : Int32)), (.ref b92), (.long (own_kf u0 u1 1)), (.ref b101)])) rfl rfl (hb hby at_178)) ?_
    show own_Go _ _ _ _ (T156.setTop (mkF m 179 #[.val (.int u0), .val (.long u1), .second, .val (.long u2), .second, .val (.long (own_inv (-7046029254386353131 : Int64))), .second, .val (.int (2 : Int32)), .val (.int ((((u0.toUInt32 >>> ((14 : Int32) &&& 31).toUInt32).toInt32) &&& (7 : Int32)) - ((((u0.toUInt32 >>> ((14 : Int32) &&& 31).toUInt32).toInt32) &&& (7 : Int32)) / (5 : Int32)) * (5 : Int32))), .val (.ref b81), .val (.ref b92), .val (.ref b101), .unset, .unset, .unset, .unset, .unset] [(.long (own_vf u2 1)), (.long (own_kf u0 u1 1)), (.ref b101)]))
    obtain ⟨cq159, kq159, q159a, q159b, q159c⟩ := isOf hZ rfl z156_E_b101
    obtain ⟨_, _, ⟨T159, L159, k159, n159⟩, -, X159, ⟨Lc159, hQ159, l159, y159, z159⟩, st159⟩ := X156.virtualBack hx (y := (⟨"quillvax/store/LongMap", "put", "(JJ)V"⟩ : MethodName)) (z := (⟨"quillvax/store/LongMap", "put", "(JJ)V"⟩ : MethodName)) hown (mvT hZ (hw _ (List.mem_of_getElem? (i := 53) rfl))) (mvT hZ (hw _ (List.mem_of_getElem? (i := 54) rfl))) (notFace_of_selects (args := #[]) (mvT hZ (hw _ (List.mem_of_getElem? (i := 56) rfl)))) (mvT hZ (hw _ (List.mem_of_getElem? (i := 56) rfl))) (mvT hZ (hw _ (List.mem_of_getElem? (i := 55) rfl))) (by decide) (backOf (W := 0) (rm11 l Z a0 hw [] b101 ka102 wa102 kk102 kw102 (own_upd own_z r0 (own_kf u0 u1 0)) (own_upd own_z r0 (own_vf u2 0)) (own_kf u0 u1 1) (own_vf u2 1) r1 (1 : Int32) T156.heap n0 Z156 z156_E_b101 Fq156_keys Fq156_values Fq156_slotBits Fz156 Vk156 Vw156 gnb101 gnka102 gnwa102 neb101_ka102 neb101_wa102 nk102 f1 (fun q => own_vnz u2 1 (by decide) ((lw_eq _ _).mp q)) z1 (by decide)) hZ (hw _ (List.mem_of_getElem? (i := 57) rfl)) (hw _ (List.mem_of_getElem? (i := 16) rfl)) (by decide) (by decide)) q159a q159c (g := (mkF m 179 #[.val (.int u0), .val (.long u1), .second, .val (.long u2), .second, .val (.long (own_inv (-7046029254386353131 : Int64))), .second, .val (.int (2 : Int32)), .val (.int ((((u0.toUInt32 >>> ((14 : Int32) &&& 31).toUInt32).toInt32) &&& (7 : Int32)) - ((((u0.toUInt32 >>> ((14 : Int32) &&& 31).toUInt32).toInt32) &&& (7 : Int32)) / (5 : Int32)) * (5 : Int32))), .val (.ref b81), .val (.ref b92), .val (.ref b101), .unset, .unset, .unset, .unset, .unset] [(.long (own_vf u2 1)), (.long (own_kf u0 u1 1)), (.ref b101)])) rfl (by rw [hml]; rfl) (Steps.refl _) (argsL := [(.long (own_kf u0 u1 1)), (.long (own_vf u2 1))]) (rest := []) (lenOf own_pd8 rfl) rfl (by show 2 * 0 + _ ≤ _; exact Nat.le_of_eq rfl) (hb hby at_179) (fun _ _ => ⟨rfl, rfl, (by decide : 5 + 0 ≤ _), (by decide : 45 + 0 ≤ _)⟩)
    dsimp only [Pt.U, Pt.locs, Pt.cells, Pt.slots] at X159 l159 y159 z159 st159 hQ159
    rw [l159, y159, z159] at X159
    obtain ⟨rfl, Nq159, Kq159, Eq159, Fq159_keys, Fq159_values, Fq159_slotBits, Fq159_size, Vk159, Vw159⟩ := hQ159
    have N159 := Fr.app N156 Nq159
    refine own_tr st159 ?_
    have z159_V_b81 := z156_V_b81.keep Kq159 (ninS neb81_b101 (ninS neb81_ka102 (ninS neb81_wa102 nin0)))
    have z159_V_b92 := z156_V_b92.keep Kq159 (ninS neb92_b101 (ninS neb92_ka102 (ninS neb92_wa102 nin0)))
    have z159_E_b101 := z156_E_b101.keep Kq159
    have Z159 : n0 ≤ T159.heap.size := Nat.le_trans Z156 Kq159.1
    have Kk159 : Keep h0 T159.heap [] := Kk156.trans Kq159 (allS (Or.inr gkb101) (allS (Or.inr gkka102) (allS (Or.inr gkwa102) all0)))
    have Fz159 : Fld Z T159.heap b101 "quillvax/store/LongMap" "size" "I" (.int (2 : Int32)) := Fq159_size
    have VkN : Arv Z T159.heap ka102 kk102 .long (16 : Int32) (own_vs KN) (.long (0 : Int64)) := eKN ▸ Vk159
    have VwN : Arv Z T159.heap wa102 kw102 .long (16 : Int32) (own_vs WN) (.long (0 : Int64)) := eWN ▸ Vw159
    refine own_st (fun _ k => XS.iload X159.here hx rfl (hb hby at_182) rfl k) ?_
    refine own_st (fun _ k => XS.iconst X159.here hx rfl (hb hby at_184) k) ?_
    show own_Go _ _ _ _ (T159.setTop (mkF m 185 #[.val (.int u0), .val (.long u1), .second, .val (.long u2), .second, .val (.long (own_inv (-7046029254386353131 : Int64))), .second, .val (.int (2 : Int32)), .val (.int ((((u0.toUInt32 >>> ((14 : Int32) &&& 31).toUInt32).toInt32) &&& (7 : Int32)) - ((((u0.toUInt32 >>> ((14 : Int32) &&& 31).toUInt32).toInt32) &&& (7 : Int32)) / (5 : Int32)) * (5 : Int32))), .val (.ref b81), .val (.ref b92), .val (.ref b101), .unset, .unset, .unset, .unset, .unset] [(.int (2 : Int32)), (.int (2 : Int32))]))
    refine own_st (fun _ k => XS.icmpYes X159.here hx rfl (pc0 := 185) (pc' := 201) rfl (hb hby at_185) rfl (flt (by decide : ¬ ((2 : Int32) < (2 : Int32)))).2.2.2 (by decide) (by decide) k) ?_
    refine own_st (fun _ k => XS.iload X159.here hx rfl (hb hby at_201) rfl k) ?_
    refine own_st (fun _ k => XS.iconst X159.here hx rfl (hb hby at_203) k) ?_
    show own_Go _ _ _ _ (T159.setTop (mkF m 204 #[.val (.int u0), .val (.long u1), .second, .val (.long u2), .second, .val (.long (own_inv (-7046029254386353131 : Int64))), .second, .val (.int (2 : Int32)), .val (.int ((((u0.toUInt32 >>> ((14 : Int32) &&& 31).toUInt32).toInt32) &&& (7 : Int32)) - ((((u0.toUInt32 >>> ((14 : Int32) &&& 31).toUInt32).toInt32) &&& (7 : Int32)) / (5 : Int32)) * (5 : Int32))), .val (.ref b81), .val (.ref b92), .val (.ref b101), .unset, .unset, .unset, .unset, .unset] [(.int (3 : Int32)), (.int (2 : Int32))]))
    refine own_st (fun _ k => XS.icmpYes X159.here hx rfl (pc0 := 204) (pc' := 220) rfl (hb hby at_204) rfl (flt (by decide : ¬ ((3 : Int32) < (2 : Int32)))).2.2.2 (by decide) (by decide) k) ?_
    show own_Go _ _ _ _ (T159.setTop (mkF m 220 #[.val (.int u0), .val (.long u1), .second, .val (.long u2), .second, .val (.long (own_inv (-7046029254386353131 : Int64))), .second, .val (.int (2 : Int32)), .val (.int ((((u0.toUInt32 >>> ((14 : Int32) &&& 31).toUInt32).toInt32) &&& (7 : Int32)) - ((((u0.toUInt32 >>> ((14 : Int32) &&& 31).toUInt32).toInt32) &&& (7 : Int32)) / (5 : Int32)) * (5 : Int32))), .val (.ref b81), .val (.ref b92), .val (.ref b101), .unset, .unset, .unset, .unset, .unset] []))
    rcases own_n5 ((u0.toUInt32 >>> ((14 : Int32) &&& 31).toUInt32).toInt32) with hs160 | hs160 | hs160 | hs160 | hs160
    · skip
      rw [hs160]
      have HT := own_H4 u0 u1 u2
      obtain ⟨ts, tq, es, er, eg0, eg1, eg2, eg3⟩ := own_chkE (own_c20 _ (own_offN u0 0).1 _ (own_offN u0 1).1 _ (own_offN u0 2).1 _ (own_offN u0 3).1)
      have ess : ts = tt := Option.some.inj (es.symm.trans etN)
      rw [ess] at er
      obtain ⟨rr, KR, WR, rf, rz, rm, RQ⟩ := own_stepR HT RR2 (n := 2) (a := 0) (by decide) (by decide) er
      obtain ⟨g0, gf0, ga0_, gb0_⟩ := own_stepG HT RQ (q := 0) (by decide) eg0
      obtain ⟨g1, gf1, ga1_, gb1_⟩ := own_stepG HT RQ (q := 1) (by decide) eg1
      obtain ⟨g2, gf2, ga2_, gb2_⟩ := own_stepG HT RQ (q := 2) (by decide) eg2
      obtain ⟨g3, gf3, ga3_, gb3_⟩ := own_stepG HT RQ (q := 3) (by decide) eg3
      show own_Go _ _ _ _ (T159.setTop (mkF m 220 #[.val (.int u0), .val (.long u1), .second, .val (.long u2), .second, .val (.long (own_inv (-7046029254386353131 : Int64))), .second, .val (.int (2 : Int32)), .val (.int (0 : Int32)), .val (.ref b81), .val (.ref b92), .val (.ref b101), .unset, .unset, .unset, .unset, .unset] []))
      refine own_st (fun _ k => XS.iload X159.here hx rfl (hb hby at_220) rfl k) ?_
      refine own_st (fun _ k => XS.iload X159.here hx rfl (hb hby at_222) rfl k) ?_
      show own_Go _ _ _ _ (T159.setTop (mkF m 224 #[.val (.int u0), .val (.long u1), .second, .val (.long u2), .second, .val (.long (own_inv (-7046029254386353131 : Int64))), .second, .val (.int (2 : Int32)), .val (.int (0 : Int32)), .val (.ref b81), .val (.ref b92), .val (.ref b101), .unset, .unset, .unset, .unset, .unset] [(.int (2 : Int32)), (.int (0 : Int32))]))
      refine own_st (fun _ k => XS.icmpNo X159.here hx rfl (hb hby at_224) rfl (tlt (by decide : ((0 : Int32) < (2 : Int32)))).2.1 k) ?_
      refine own_st (fun _ k => XS.aload X159.here hx rfl (hb hby at_227) rfl rfl k) ?_
      refine own_st (fun _ k => XS.iload X159.here hx rfl (hb hby at_229) rfl k) ?_
      show own_Go _ _ _ _ (T159.setTop (mkF m 231 #[.val (.int u0), .val (.long u1), .second, .val (.long u2), .second, .val (.long (own_inv (-7046029254386353131 : Int64))), .second, .val (.int (2 : Int32)), .val (.int (0 : Int32)), .val (.ref b81), .val (.ref b92), .val (.ref b101), .unset, .unset, .unset, .unset, .unset] [(.int (0 : Int32)), (.ref b92)]))
      obtain ⟨cl161, Ar161, -, Sz161, Nn161, Hs161, -⟩ := id z159_V_b92
      have hin161 : ¬ ((0 : Int32) < 0 ∨ cl161.slots.size ≤ ((0 : Int32)).toNatClampNeg) := inb_of Sz161 ⟨(by decide : ¬ ((0 : Int32) < (0 : Int32))), (by decide : (0 : Int32) < (4 : Int32))⟩
      have hat161 : cl161.slots[((0 : Int32)).toNatClampNeg]? = some (.long (own_vf u2 0)) := Hs161.at hin161 rfl
      refine own_st (X159.laload hx (j := (0 : Int32)) (v := (.long (own_vf u2 0))) Ar161.1 (State.isArrayOf_alike hZ.alike Ar161.2.1) Ar161.2.2 hin161 hat161 (g := (mkF m 231 #[.val (.int u0), .val (.long u1), .second, .val (.long u2), .second, .val (.long (own_inv (-7046029254386353131 : Int64))), .second, .val (.int (2 : Int32)), .val (.int (0 : Int32)), .val (.ref b81), .val (.ref b92), .val (.ref b101), .unset, .unset, .unset, .unset, .unset] [(.int (0 : Int32)), (.ref b92)])) rfl rfl (hb hby at_231)) ?_
      refine own_st (fun _ k => XS.goto X159.here hx rfl (pc0 := 232) (pc' := 236) rfl (hb hby at_232) (by decide) (by decide) k) ?_
      refine own_st (fun _ k => XS.lstore X159.here hx rfl (hb hby at_236) rfl (l' := #[.val (.int u0), .val (.long u1), .second, .val (.long u2), .second, .val (.long (own_inv (-7046029254386353131 : Int64))), .second, .val (.int (2 : Int32)), .val (.int (0 : Int32)), .val (.ref b81), .val (.ref b92), .val (.ref b101), .val (.long (own_vf u2 0)), .second, .unset, .unset, .unset]) rfl k) ?_
      refine own_st (fun _ k => XS.aload X159.here hx rfl (hb hby at_238) rfl rfl k) ?_
      refine own_st (fun _ k => XS.aload X159.here hx rfl (hb hby at_240) rfl rfl k) ?_
      refine own_st (fun _ k => XS.iload X159.here hx rfl (hb hby at_242) rfl k) ?_
      show own_Go _ _ _ _ (T159.setTop (mkF m 244 #[.val (.int u0), .val (.long u1), .second, .val (.long u2), .second, .val (.long (own_inv (-7046029254386353131 : Int64))), .second, .val (.int (2 : Int32)), .val (.int (0 : Int32)), .val (.ref b81), .val (.ref b92), .val (.ref b101), .val (.long (own_vf u2 0)), .second, .unset, .unset, .unset] [(.int (0 : Int32)), (.ref b81), (.ref b101)]))
      obtain ⟨cl162, Ar162, -, Sz162, Nn162, Hs162, -⟩ := id z159_V_b81
      have hin162 : ¬ ((0 : Int32) < 0 ∨ cl162.slots.size ≤ ((0 : Int32)).toNatClampNeg) := inb_of Sz162 ⟨(by decide : ¬ ((0 : Int32) < (0 : Int32))), (by decide : (0 : Int32) < (5 : Int32))⟩
      have hat162 : cl162.slots[((0 : Int32)).toNatClampNeg]? = some (.long (own_kf u0 u1 0)) := Hs162.at hin162 rfl
      refine own_st (X159.laload hx (j := (0 : Int32)) (v := (.long (own_kf u0 u1 0))) Ar162.1 (State.isArrayOf_alike hZ.alike Ar162.2.1) Ar162.2.2 hin162 hat162 (g := (mkF m 244 #[.val (.int u0), .val (.long u1), .second, .val (.long u2), .second, .val (.long (own_inv (-7046029254386353131 : Int64))), .second, .val (.int (2 : Int32)), .val (.int (0 : Int32)), .val (.ref b81), .val (.ref b92), .val (.ref b101), .val (.long (own_vf u2 0)), .second, .unset, .unset, .unset] [(.int (0 : Int32)), (.ref b81), (.ref b101)])) rfl rfl (hb hby at_244)) ?_
      show own_Go _ _ _ _ (T159.setTop (mkF m 245 #[.val (.int u0), .val (.long u1), .second, .val (.long u2), .second, .val (.long (own_inv (-7046029254386353131 : Int64))), .second, .val (.int (2 : Int32)), .val (.int (0 : Int32)), .val (.ref b81), .val (.ref b92), .val (.ref b101), .val (.long (own_vf u2 0)), .second, .unset, .unset, .unset] [(.long (own_kf u0 u1 0)), (.ref b101)]))
      obtain ⟨cq163, kq163, q163a, q163b, q163c⟩ := isOf hZ rfl z159_E_b101
      obtain ⟨_, _, ⟨T163, L163, k163, n163⟩, -, X163, ⟨Lc163, hQ163, l163, y163, z163⟩, st163⟩ := X159.virtualBack hx (y := (⟨"quillvax/store/LongMap", "remove", "(J)J"⟩ : MethodName)) (z := (⟨"quillvax/store/LongMap", "remove", "(J)J"⟩ : MethodName)) hown (mvT hZ (hw _ (List.mem_of_getElem? (i := 34) rfl))) (mvT hZ (hw _ (List.mem_of_getElem? (i := 35) rfl))) (notFace_of_selects (args := #[]) (mvT hZ (hw _ (List.mem_of_getElem? (i := 37) rfl)))) (mvT hZ (hw _ (List.mem_of_getElem? (i := 37) rfl))) (mvT hZ (hw _ (List.mem_of_getElem? (i := 36) rfl))) (by decide) (backOf (W := 0) (rm7 l Z a0 hw [] b101 ka102 wa102 kk102 kw102 KN WN (own_kf u0 u1 0) rr KR WR (2 : Int32) T159.heap n0 Z159 z159_E_b101 Fq159_keys Fq159_values Fq159_slotBits Fz159 VkN VwN gnb101 gnka102 gnwa102 neb101_ka102 neb101_wa102 nk102 rf (by rw [rz]; exact own_vnz u2 0 (by decide)) rm) hZ (hw _ (List.mem_of_getElem? (i := 38) rfl)) (hw _ (List.mem_of_getElem? (i := 16) rfl)) (by decide) (by decide)) q163a q163c (g := (mkF m 245 #[.val (.int u0), .val (.long u1), .second, .val (.long u2), .second, .val (.long (own_inv (-7046029254386353131 : Int64))), .second, .val (.int (2 : Int32)), .val (.int (0 : Int32)), .val (.ref b81), .val (.ref b92), .val (.ref b101), .val (.long (own_vf u2 0)), .second, .unset, .unset, .unset] [(.long (own_kf u0 u1 0)), (.ref b101)])) rfl (by rw [hml]; rfl) (Steps.refl _) (argsL := [(.long (own_kf u0 u1 0))]) (rest := []) (lenOf own_pd0 rfl) rfl (by show 2 * 0 + _ ≤ _; exact Nat.le_of_eq rfl) (hb hby at_245) (fun _ _ => ⟨rfl, rfl, (by decide : 5 + 0 ≤ _), (by decide : 45 + 0 ≤ _)⟩)
      dsimp only [Pt.U, Pt.locs, Pt.cells, Pt.slots] at X163 l163 y163 z163 st163 hQ163
      rw [l163, y163, z163] at X163
      obtain ⟨rfl, Nq163, Kq163, Eq163, Fq163_keys, Fq163_values, Fq163_slotBits, Vk163, Vw163⟩ := hQ163
      have N163 := Fr.app N159 Nq163
      refine own_tr st163 ?_
      have z163_V_b81 := z159_V_b81.keep Kq163 (ninS neb81_b101 (ninS neb81_ka102 (ninS neb81_wa102 nin0)))
      have z163_V_b92 := z159_V_b92.keep Kq163 (ninS neb92_b101 (ninS neb92_ka102 (ninS neb92_wa102 nin0)))
      have z163_E_b101 := z159_E_b101.keep Kq163
      have Z163 : n0 ≤ T163.heap.size := Nat.le_trans Z159 Kq163.1
      have Kk163 : Keep h0 T163.heap [] := Kk159.trans Kq163 (allS (Or.inr gkb101) (allS (Or.inr gkka102) (allS (Or.inr gkwa102) all0)))
      refine own_st (fun _ k => XS.lstore X163.here hx rfl (hb hby at_248) rfl (l' := #[.val (.int u0), .val (.long u1), .second, .val (.long u2), .second, .val (.long (own_inv (-7046029254386353131 : Int64))), .second, .val (.int (2 : Int32)), .val (.int (0 : Int32)), .val (.ref b81), .val (.ref b92), .val (.ref b101), .val (.long (own_vf u2 0)), .second, .val (.long (WN rr)), .second, .unset]) rfl k) ?_
      refine own_st (fun _ k => XS.lload X163.here hx rfl (hb hby at_250) rfl k) ?_
      refine own_st (fun _ k => XS.lload X163.here hx rfl (hb hby at_252) rfl k) ?_
      show own_Go _ _ _ _ (T163.setTop (mkF m 254 #[.val (.int u0), .val (.long u1), .second, .val (.long u2), .second, .val (.long (own_inv (-7046029254386353131 : Int64))), .second, .val (.int (2 : Int32)), .val (.int (0 : Int32)), .val (.ref b81), .val (.ref b92), .val (.ref b101), .val (.long (own_vf u2 0)), .second, .val (.long (WN rr)), .second, .unset] [(.long (own_vf u2 0)), (.long (WN rr))]))
      refine own_st (fun _ k => XS.lcmp X163.here hx rfl (hb hby at_254) rfl k) ?_
      show own_Go _ _ _ _ (T163.setTop (mkF m 255 #[.val (.int u0), .val (.long u1), .second, .val (.long u2), .second, .val (.long (own_inv (-7046029254386353131 : Int64))), .second, .val (.int (2 : Int32)), .val (.int (0 : Int32)), .val (.ref b81), .val (.ref b92), .val (.ref b101), .val (.long (own_vf u2 0)), .second, .val (.long (WN rr)), .second, .unset] [(.int (lcmpW (WN rr) (own_vf u2 0)))]))
      refine own_st (fun _ k => XS.ifNo X163.here hx rfl (hb hby at_255) rfl ((if0 _ _).trans (teq ((lw_eq _ _).mpr rz)).2) k) ?_
      refine own_st (fun _ k => XS.iconst X163.here hx rfl (hb hby at_258) k) ?_
      refine own_st (fun _ k => XS.goto X163.here hx rfl (pc0 := 259) (pc' := 263) rfl (hb hby at_259) (by decide) (by decide) k) ?_
      refine own_st (fun _ k => XS.istore X163.here hx rfl (hb hby at_263) rfl (l' := #[.val (.int u0), .val (.long u1), .second, .val (.long u2), .second, .val (.long (own_inv (-7046029254386353131 : Int64))), .second, .val (.int (2 : Int32)), .val (.int (0 : Int32)), .val (.ref b81), .val (.ref b92), .val (.ref b101), .val (.long (own_vf u2 0)), .second, .val (.long (WN rr)), .second, .val (.int (1 : Int32))]) rfl k) ?_
      show own_Go _ _ _ _ (T163.setTop (mkF m 265 #[.val (.int u0), .val (.long u1), .second, .val (.long u2), .second, .val (.long (own_inv (-7046029254386353131 : Int64))), .second, .val (.int (2 : Int32)), .val (.int (0 : Int32)), .val (.ref b81), .val (.ref b92), .val (.ref b101), .val (.long (own_vf u2 0)), .second, .val (.long (WN rr)), .second, .val (.int (1 : Int32))] []))
      refine TAIL _ _ _ _ _ _ g0 g1 g2 g3 _ _ _ _ X163 rfl Vk163 Vw163 z163_E_b101 Fq163_keys Fq163_values Fq163_slotBits z163_V_b81 z163_V_b92 N163 Z163 gf0 (by rw [if_pos (by decide), if_pos rfl]; exact ga0_ (by decide)) gf1 (by rw [if_pos (by decide), if_neg (by decide)]; exact gb1_ (by decide)) gf2 (by rw [if_neg (by decide)]; exact ga2_ (by decide)) gf3 (by rw [if_neg (by decide)]; exact ga3_ (by decide)) ?_
      intro TM lcM XM NM
      show own_Go _ _ _ _ (TM.setTop (mkF m 446 #[.val (.int u0), .val (.long u1), .second, .val (.long u2), .second, .val (.long (own_inv (-7046029254386353131 : Int64))), .second, .val (.int (2 : Int32)), .val (.int (0 : Int32)), .val (.ref b81), .val (.ref b92), .val (.ref b101), .val (.long (own_vf u2 0)), .second, .val (.long (WN rr)), .second, .val (.int (1 : Int32))] [(.int (1 : Int32))]))
      obtain ⟨fs, hr, hrun, hended, hW, hsame⟩ := XM.leave (v := some (.int (1 : Int32))) (fun h => by rw [Bd.returns] at h; cases h)
      refine own_out (retN XM hx (t := .boolean) Bd.returns (by simp) (hb hby at_446) hr) ⟨hrun, hended, _, _, rfl, ?_, ⟨_, rfl⟩, hW, hsame.mono (by decide) (by decide)⟩
      show Q0 Z u0 u1 u2 h0 n0 _ TM.heap _
      exact ⟨rfl, NM⟩
    · skip
      rw [hs160]
      have HT := own_H4 u0 u1 u2
      obtain ⟨ts, tq, es, er, eg0, eg1, eg2, eg3⟩ := own_chkE (own_c21 _ (own_offN u0 0).1 _ (own_offN u0 1).1 _ (own_offN u0 2).1 _ (own_offN u0 3).1)
      have ess : ts = tt := Option.some.inj (es.symm.trans etN)
      rw [ess] at er
      obtain ⟨rr, KR, WR, rf, rz, rm, RQ⟩ := own_stepR HT RR2 (n := 2) (a := 1) (by decide) (by decide) er
      obtain ⟨g0, gf0, ga0_, gb0_⟩ := own_stepG HT RQ (q := 0) (by decide) eg0
      obtain ⟨g1, gf1, ga1_, gb1_⟩ := own_stepG HT RQ (q := 1) (by decide) eg1
      obtain ⟨g2, gf2, ga2_, gb2_⟩ := own_stepG HT RQ (q := 2) (by decide) eg2
      obtain ⟨g3, gf3, ga3_, gb3_⟩ := own_stepG HT RQ (q := 3) (by decide) eg3
      show own_Go _ _ _ _ (T159.setTop (mkF m 220 #[.val (.int u0), .val (.long u1), .second, .val (.long u2), .second, .val (.long (own_inv (-7046029254386353131 : Int64))), .second, .val (.int (2 : Int32)), .val (.int (1 : Int32)), .val (.ref b81), .val (.ref b92), .val (.ref b101), .unset, .unset, .unset, .unset, .unset] []))
      refine own_st (fun _ k => XS.iload X159.here hx rfl (hb hby at_220) rfl k) ?_
      refine own_st (fun _ k => XS.iload X159.here hx rfl (hb hby at_222) rfl k) ?_
      show own_Go _ _ _ _ (T159.setTop (mkF m 224 #[.val (.int u0), .val (.long u1), .second, .val (.long u2), .second, .val (.long (own_inv (-7046029254386353131 : Int64))), .second, .val (.int (2 : Int32)), .val (.int (1 : Int32)), .val (.ref b81), .val (.ref b92), .val (.ref b101), .unset, .unset, .unset, .unset, .unset] [(.int (2 : Int32)), (.int (1 : Int32))]))
      refine own_st (fun _ k => XS.icmpNo X159.here hx rfl (hb hby at_224) rfl (tlt (by decide : ((1 : Int32) < (2 : Int32)))).2.1 k) ?_
      refine own_st (fun _ k => XS.aload X159.here hx rfl (hb hby at_227) rfl rfl k) ?_
      refine own_st (fun _ k => XS.iload X159.here hx rfl (hb hby at_229) rfl k) ?_
      show own_Go _ _ _ _ (T159.setTop (mkF m 231 #[.val (.int u0), .val (.long u1), .second, .val (.long u2), .second, .val (.long (own_inv (-7046029254386353131 : Int64))), .second, .val (.int (2 : Int32)), .val (.int (1 : Int32)), .val (.ref b81), .val (.ref b92), .val (.ref b101), .unset, .unset, .unset, .unset, .unset] [(.int (1 : Int32)), (.ref b92)]))
      obtain ⟨cl164, Ar164, -, Sz164, Nn164, Hs164, -⟩ := id z159_V_b92
      have hin164 : ¬ ((1 : Int32) < 0 ∨ cl164.slots.size ≤ ((1 : Int32)).toNatClampNeg) := inb_of Sz164 ⟨(by decide : ¬ ((1 : Int32) < (0 : Int32))), (by decide : (1 : Int32) < (4 : Int32))⟩
      have hat164 : cl164.slots[((1 : Int32)).toNatClampNeg]? = some (.long (own_vf u2 1)) := Hs164.at hin164 rfl
      refine own_st (X159.laload hx (j := (1 : Int32)) (v := (.long (own_vf u2 1))) Ar164.1 (State.isArrayOf_alike hZ.alike Ar164.2.1) Ar164.2.2 hin164 hat164 (g := (mkF m 231 #[.val (.int u0), .val (.long u1), .second, .val (.long u2), .second, .val (.long (own_inv (-7046029254386353131 : Int64))), .second, .val (.int (2 : Int32)), .val (.int (1 : Int32)), .val (.ref b81), .val (.ref b92), .val (.ref b101), .unset, .unset, .unset, .unset, .unset] [(.int (1 : Int32)), (.ref b92)])) rfl rfl (hb hby at_231)) ?_
      refine own_st (fun _ k => XS.goto X159.here hx rfl (pc0 := 232) (pc' := 236) rfl (hb hby at_232) (by decide) (by decide) k) ?_
      refine own_st (fun _ k => XS.lstore X159.here hx rfl (hb hby at_236) rfl (l' := #[.val (.int u0), .val (.long u1), .second, .val (.long u2), .second, .val (.long (own_inv (-7046029254386353131 : Int64))), .second, .val (.int (2 : Int32)), .val (.int (1 : Int32)), .val (.ref b81), .val (.ref b92), .val (.ref b101), .val (.long (own_vf u2 1)), .second, .unset, .unset, .unset]) rfl k) ?_
      refine own_st (fun _ k => XS.aload X159.here hx rfl (hb hby at_238) rfl rfl k) ?_
      refine own_st (fun _ k => XS.aload X159.here hx rfl (hb hby at_240) rfl rfl k) ?_
      refine own_st (fun _ k => XS.iload X159.here hx rfl (hb hby at_242) rfl k) ?_
      show own_Go _ _ _ _ (T159.setTop (mkF m 244 #[.val (.int u0), .val (.long u1), .second, .val (.long u2), .second, .val (.long (own_inv (-7046029254386353131 : Int64))), .second, .val (.int (2 : Int32)), .val (.int (1 : Int32)), .val (.ref b81), .val (.ref b92), .val (.ref b101), .val (.long (own_vf u2 1)), .second, .unset, .unset, .unset] [(.int (1 : Int32)), (.ref b81), (.ref b101)]))
      obtain ⟨cl165, Ar165, -, Sz165, Nn165, Hs165, -⟩ := id z159_V_b81
      have hin165 : ¬ ((1 : Int32) < 0 ∨ cl165.slots.size ≤ ((1 : Int32)).toNatClampNeg) := inb_of Sz165 ⟨(by decide : ¬ ((1 : Int32) < (0 : Int32))), (by decide : (1 : Int32) < (5 : Int32))⟩
      have hat165 : cl165.slots[((1 : Int32)).toNatClampNeg]? = some (.long (own_kf u0 u1 1)) := Hs165.at hin165 rfl
      refine own_st (X159.laload hx (j := (1 : Int32)) (v := (.long (own_kf u0 u1 1))) Ar165.1 (State.isArrayOf_alike hZ.alike Ar165.2.1) Ar165.2.2 hin165 hat165 (g := (mkF m 244 #[.val (.int u0), .val (.long u1), .second, .val (.long u2), .second, .val (.long (own_inv (-7046029254386353131 : Int64))), .second, .val (.int (2 : Int32)), .val (.int (1 : Int32)), .val (.ref b81), .val (.ref b92), .val (.ref b101), .val (.long (own_vf u2 1)), .second, .unset, .unset, .unset] [(.int (1 : Int32)), (.ref b81), (.ref b101)])) rfl rfl (hb hby at_244)) ?_
      show own_Go _ _ _ _ (T159.setTop (mkF m 245 #[.val (.int u0), .val (.long u1), .second, .val (.long u2), .second, .val (.long (own_inv (-7046029254386353131 : Int64))), .second, .val (.int (2 : Int32)), .val (.int (1 : Int32)), .val (.ref b81), .val (.ref b92), .val (.ref b101), .val (.long (own_vf u2 1)), .second, .unset, .unset, .unset] [(.long (own_kf u0 u1 1)), (.ref b101)]))
      obtain ⟨cq166, kq166, q166a, q166b, q166c⟩ := isOf hZ rfl z159_E_b101
      obtain ⟨_, _, ⟨T166, L166, k166, n166⟩, -, X166, ⟨Lc166, hQ166, l166, y166, z166⟩, st166⟩ := X159.virtualBack hx (y := (⟨"quillvax/store/LongMap", "remove", "(J)J"⟩ : MethodName)) (z := (⟨"quillvax/store/LongMap", "remove", "(J)J"⟩ : MethodName)) hown (mvT hZ (hw _ (List.mem_of_getElem? (i := 34) rfl))) (mvT hZ (hw _ (List.mem_of_getElem? (i := 35) rfl))) (notFace_of_selects (args := #[]) (mvT hZ (hw _ (List.mem_of_getElem? (i := 37) rfl)))) (mvT hZ (hw _ (List.mem_of_getElem? (i := 37) rfl))) (mvT hZ (hw _ (List.mem_of_getElem? (i := 36) rfl))) (by decide) (backOf (W := 0) (rm7 l Z a0 hw [] b101 ka102 wa102 kk102 kw102 KN WN (own_kf u0 u1 1) rr KR WR (2 : Int32) T159.heap n0 Z159 z159_E_b101 Fq159_keys Fq159_values Fq159_slotBits Fz159 VkN VwN gnb101 gnka102 gnwa102 neb101_ka102 neb101_wa102 nk102 rf (by rw [rz]; exact own_vnz u2 1 (by decide)) rm) hZ (hw _ (List.mem_of_getElem? (i := 38) rfl)) (hw _ (List.mem_of_getElem? (i := 16) rfl)) (by decide) (by decide)) q166a q166c (g := (mkF m 245 #[.val (.int u0), .val (.long u1), .second, .val (.long u2), .second, .val (.long (own_inv (-7046029254386353131 : Int64))), .second, .val (.int (2 : Int32)), .val (.int (1 : Int32)), .val (.ref b81), .val (.ref b92), .val (.ref b101), .val (.long (own_vf u2 1)), .second, .unset, .unset, .unset] [(.long (own_kf u0 u1 1)), (.ref b101)])) rfl (by rw [hml]; rfl) (Steps.refl _) (argsL := [(.long (own_kf u0 u1 1))]) (rest := []) (lenOf own_pd0 rfl) rfl (by show 2 * 0 + _ ≤ _; exact Nat.le_of_eq rfl) (hb hby at_245) (fun _ _ => ⟨rfl, rfl, (by decide : 5 + 0 ≤ _), (by decide : 45 + 0 ≤ _)⟩)
      dsimp only [Pt.U, Pt.locs, Pt.cells, Pt.slots] at X166 l166 y166 z166 st166 hQ166
      rw [l166, y166, z166] at X166
      obtain ⟨rfl, Nq166, Kq166, Eq166, Fq166_keys, Fq166_values, Fq166_slotBits, Vk166, Vw166⟩ := hQ166
      have N166 := Fr.app N159 Nq166
      refine own_tr st166 ?_
      have z166_V_b81 := z159_V_b81.keep Kq166 (ninS neb81_b101 (ninS neb81_ka102 (ninS neb81_wa102 nin0)))
      have z166_V_b92 := z159_V_b92.keep Kq166 (ninS neb92_b101 (ninS neb92_ka102 (ninS neb92_wa102 nin0)))
      have z166_E_b101 := z159_E_b101.keep Kq166
      have Z166 : n0 ≤ T166.heap.size := Nat.le_trans Z159 Kq166.1
      have Kk166 : Keep h0 T166.heap [] := Kk159.trans Kq166 (allS (Or.inr gkb101) (allS (Or.inr gkka102) (allS (Or.inr gkwa102) all0)))
      refine own_st (fun _ k => XS.lstore X166.here hx rfl (hb hby at_248) rfl (l' := #[.val (.int u0), .val (.long u1), .second, .val (.long u2), .second, .val (.long (own_inv (-7046029254386353131 : Int64))), .second, .val (.int (2 : Int32)), .val (.int (1 : Int32)), .val (.ref b81), .val (.ref b92), .val (.ref b101), .val (.long (own_vf u2 1)), .second, .val (.long (WN rr)), .second, .unset]) rfl k) ?_
      refine own_st (fun _ k => XS.lload X166.here hx rfl (hb hby at_250) rfl k) ?_
      refine own_st (fun _ k => XS.lload X166.here hx rfl (hb hby at_252) rfl k) ?_
      show own_Go _ _ _ _ (T166.setTop (mkF m 254 #[.val (.int u0), .val (.long u1), .second, .val (.long u2), .second, .val (.long (own_inv (-7046029254386353131 : Int64))), .second, .val (.int (2 : Int32)), .val (.int (1 : Int32)), .val (.ref b81), .val (.ref b92), .val (.ref b101), .val (.long (own_vf u2 1)), .second, .val (.long (WN rr)), .second, .unset] [(.long (own_vf u2 1)), (.long (WN rr))]))
      refine own_st (fun _ k => XS.lcmp X166.here hx rfl (hb hby at_254) rfl k) ?_
      show own_Go _ _ _ _ (T166.setTop (mkF m 255 #[.val (.int u0), .val (.long u1), .second, .val (.long u2), .second, .val (.long (own_inv (-7046029254386353131 : Int64))), .second, .val (.int (2 : Int32)), .val (.int (1 : Int32)), .val (.ref b81), .val (.ref b92), .val (.ref b101), .val (.long (own_vf u2 1)), .second, .val (.long (WN rr)), .second, .unset] [(.int (lcmpW (WN rr) (own_vf u2 1)))]))
      refine own_st (fun _ k => XS.ifNo X166.here hx rfl (hb hby at_255) rfl ((if0 _ _).trans (teq ((lw_eq _ _).mpr rz)).2) k) ?_
      refine own_st (fun _ k => XS.iconst X166.here hx rfl (hb hby at_258) k) ?_
      refine own_st (fun _ k => XS.goto X166.here hx rfl (pc0 := 259) (pc' := 263) rfl (hb hby at_259) (by decide) (by decide) k) ?_
      refine own_st (fun _ k => XS.istore X166.here hx rfl (hb hby at_263) rfl (l' := #[.val (.int u0), .val (.long u1), .second, .val (.long u2), .second, .val (.long (own_inv (-7046029254386353131 : Int64))), .second, .val (.int (2 : Int32)), .val (.int (1 : Int32)), .val (.ref b81), .val (.ref b92), .val (.ref b101), .val (.long (own_vf u2 1)), .second, .val (.long (WN rr)), .second, .val (.int (1 : Int32))]) rfl k) ?_
      show own_Go _ _ _ _ (T166.setTop (mkF m 265 #[.val (.int u0), .val (.long u1), .second, .val (.long u2), .second, .val (.long (own_inv (-7046029254386353131 : Int64))), .second, .val (.int (2 : Int32)), .val (.int (1 : Int32)), .val (.ref b81), .val (.ref b92), .val (.ref b101), .val (.long (own_vf u2 1)), .second, .val (.long (WN rr)), .second, .val (.int (1 : Int32))] []))
      refine TAIL _ _ _ _ _ _ g0 g1 g2 g3 _ _ _ _ X166 rfl Vk166 Vw166 z166_E_b101 Fq166_keys Fq166_values Fq166_slotBits z166_V_b81 z166_V_b92 N166 Z166 gf0 (by rw [if_pos (by decide), if_neg (by decide)]; exact gb0_ (by decide)) gf1 (by rw [if_pos (by decide), if_pos rfl]; exact ga1_ (by decide)) gf2 (by rw [if_neg (by decide)]; exact ga2_ (by decide)) gf3 (by rw [if_neg (by decide)]; exact ga3_ (by decide)) ?_
      intro TM lcM XM NM
      show own_Go _ _ _ _ (TM.setTop (mkF m 446 #[.val (.int u0), .val (.long u1), .second, .val (.long u2), .second, .val (.long (own_inv (-7046029254386353131 : Int64))), .second, .val (.int (2 : Int32)), .val (.int (1 : Int32)), .val (.ref b81), .val (.ref b92), .val (.ref b101), .val (.long (own_vf u2 1)), .second, .val (.long (WN rr)), .second, .val (.int (1 : Int32))] [(.int (1 : Int32))]))
      obtain ⟨fs, hr, hrun, hended, hW, hsame⟩ := XM.leave (v := some (.int (1 : Int32))) (fun h => by rw [Bd.returns] at h; cases h)
      refine own_out (retN XM hx (t := .boolean) Bd.returns (by simp) (hb hby at_446) hr) ⟨hrun, hended, _, _, rfl, ?_, ⟨_, rfl⟩, hW, hsame.mono (by decide) (by decide)⟩
      show Q0 Z u0 u1 u2 h0 n0 _ TM.heap _
      exact ⟨rfl, NM⟩
    · skip
      rw [hs160]
      have HT := own_H4 u0 u1 u2
      obtain ⟨ts, tq, es, er, eg0, eg1, eg2, eg3⟩ := own_chkE (own_c22 _ (own_offN u0 0).1 _ (own_offN u0 1).1 _ (own_offN u0 2).1 _ (own_offN u0 3).1)
      have ess : ts = tt := Option.some.inj (es.symm.trans etN)
      rw [ess] at er
      obtain ⟨rr, rf, rz, RQ⟩ := own_stepA HT RR2 (n := 2) (a := 2) (by decide) (by decide) er
      obtain ⟨g0, gf0, ga0_, gb0_⟩ := own_stepG HT RQ (q := 0) (by decide) eg0
      obtain ⟨g1, gf1, ga1_, gb1_⟩ := own_stepG HT RQ (q := 1) (by decide) eg1
      obtain ⟨g2, gf2, ga2_, gb2_⟩ := own_stepG HT RQ (q := 2) (by decide) eg2
      obtain ⟨g3, gf3, ga3_, gb3_⟩ := own_stepG HT RQ (q := 3) (by decide) eg3
      show own_Go _ _ _ _ (T159.setTop (mkF m 220 #[.val (.int u0), .val (.long u1), .second, .val (.long u2), .second, .val (.long (own_inv (-7046029254386353131 : Int64))), .second, .val (.int (2 : Int32)), .val (.int (2 : Int32)), .val (.ref b81), .val (.ref b92), .val (.ref b101), .unset, .unset, .unset, .unset, .unset] []))
      refine own_st (fun _ k => XS.iload X159.here hx rfl (hb hby at_220) rfl k) ?_
      refine own_st (fun _ k => XS.iload X159.here hx rfl (hb hby at_222) rfl k) ?_
      show own_Go _ _ _ _ (T159.setTop (mkF m 224 #[.val (.int u0), .val (.long u1), .second, .val (.long u2), .second, .val (.long (own_inv (-7046029254386353131 : Int64))), .second, .val (.int (2 : Int32)), .val (.int (2 : Int32)), .val (.ref b81), .val (.ref b92), .val (.ref b101), .unset, .unset, .unset, .unset, .unset] [(.int (2 : Int32)), (.int (2 : Int32))]))
      refine own_st (fun _ k => XS.icmpYes X159.here hx rfl (pc0 := 224) (pc' := 235) rfl (hb hby at_224) rfl (flt (by decide : ¬ ((2 : Int32) < (2 : Int32)))).2.1 (by decide) (by decide) k) ?_
      refine own_st (fun _ k => XS.lconst X159.here hx rfl (hb hby at_235) k) ?_
      refine own_st (fun _ k => XS.lstore X159.here hx rfl (hb hby at_236) rfl (l' := #[.val (.int u0), .val (.long u1), .second, .val (.long u2), .second, .val (.long (own_inv (-7046029254386353131 : Int64))), .second, .val (.int (2 : Int32)), .val (.int (2 : Int32)), .val (.ref b81), .val (.ref b92), .val (.ref b101), .val (.long (0 : Int64)), .second, .unset, .unset, .unset]) rfl k) ?_
      refine own_st (fun _ k => XS.aload X159.here hx rfl (hb hby at_238) rfl rfl k) ?_
      refine own_st (fun _ k => XS.aload X159.here hx rfl (hb hby at_240) rfl rfl k) ?_
      refine own_st (fun _ k => XS.iload X159.here hx rfl (hb hby at_242) rfl k) ?_
      show own_Go _ _ _ _ (T159.setTop (mkF m 244 #[.val (.int u0), .val (.long u1), .second, .val (.long u2), .second, .val (.long (own_inv (-7046029254386353131 : Int64))), .second, .val (.int (2 : Int32)), .val (.int (2 : Int32)), .val (.ref b81), .val (.ref b92), .val (.ref b101), .val (.long (0 : Int64)), .second, .unset, .unset, .unset] [(.int (2 : Int32)), (.ref b81), (.ref b101)]))
      obtain ⟨cl167, Ar167, -, Sz167, Nn167, Hs167, -⟩ := id z159_V_b81
      have hin167 : ¬ ((2 : Int32) < 0 ∨ cl167.slots.size ≤ ((2 : Int32)).toNatClampNeg) := inb_of Sz167 ⟨(by decide : ¬ ((2 : Int32) < (0 : Int32))), (by decide : (2 : Int32) < (5 : Int32))⟩
      have hat167 : cl167.slots[((2 : Int32)).toNatClampNeg]? = some (.long (own_kf u0 u1 2)) := Hs167.at hin167 rfl
      refine own_st (X159.laload hx (j := (2 : Int32)) (v := (.long (own_kf u0 u1 2))) Ar167.1 (State.isArrayOf_alike hZ.alike Ar167.2.1) Ar167.2.2 hin167 hat167 (g := (mkF m 244 #[.val (.int u0), .val (.long u1), .second, .val (.long u2), .second, .val (.long (own_inv (-7046029254386353131 : Int64))), .second, .val (.int (2 : Int32)), .val (.int (2 : Int32)), .val (.ref b81), .val (.ref b92), .val (.ref b101), .val (.long (0 : Int64)), .second, .unset, .unset, .unset] [(.int (2 : Int32)), (.ref b81), (.ref b101)])) rfl rfl (hb hby at_244)) ?_
      show own_Go _ _ _ _ (T159.setTop (mkF m 245 #[.val (.int u0), .val (.long u1), .second, .val (.long u2), .second, .val (.long (own_inv (-7046029254386353131 : Int64))), .second, .val (.int (2 : Int32)), .val (.int (2 : Int32)), .val (.ref b81), .val (.ref b92), .val (.ref b101), .val (.long (0 : Int64)), .second, .unset, .unset, .unset] [(.long (own_kf u0 u1 2)), (.ref b101)]))
      obtain ⟨cq168, kq168, q168a, q168b, q168c⟩ := isOf hZ rfl z159_E_b101
      obtain ⟨_, _, ⟨T168, L168, k168, n168⟩, -, X168, ⟨Lc168, hQ168, l168, y168, z168⟩, st168⟩ := X159.virtualBack hx (y := (⟨"quillvax/store/LongMap", "remove", "(J)J"⟩ : MethodName)) (z := (⟨"quillvax/store/LongMap", "remove", "(J)J"⟩ : MethodName)) hown (mvT hZ (hw _ (List.mem_of_getElem? (i := 34) rfl))) (mvT hZ (hw _ (List.mem_of_getElem? (i := 35) rfl))) (notFace_of_selects (args := #[]) (mvT hZ (hw _ (List.mem_of_getElem? (i := 37) rfl)))) (mvT hZ (hw _ (List.mem_of_getElem? (i := 37) rfl))) (mvT hZ (hw _ (List.mem_of_getElem? (i := 36) rfl))) (by decide) (backOf (W := 0) (rm7a l Z a0 hw [] b101 ka102 wa102 kk102 kw102 KN WN (own_kf u0 u1 2) rr T159.heap n0 Z159 z159_E_b101 Fq159_keys Fq159_values Fq159_slotBits VkN VwN rf rz) hZ (hw _ (List.mem_of_getElem? (i := 38) rfl)) (hw _ (List.mem_of_getElem? (i := 16) rfl)) (by decide) (by decide)) q168a q168c (g := (mkF m 245 #[.val (.int u0), .val (.long u1), .second, .val (.long u2), .second, .val (.long (own_inv (-7046029254386353131 : Int64))), .second, .val (.int (2 : Int32)), .val (.int (2 : Int32)), .val (.ref b81), .val (.ref b92), .val (.ref b101), .val (.long (0 : Int64)), .second, .unset, .unset, .unset] [(.long (own_kf u0 u1 2)), (.ref b101)])) rfl (by rw [hml]; rfl) (Steps.refl _) (argsL := [(.long (own_kf u0 u1 2))]) (rest := []) (lenOf own_pd0 rfl) rfl (by show 2 * 0 + _ ≤ _; exact Nat.le_of_eq rfl) (hb hby at_245) (fun _ _ => ⟨rfl, rfl, (by decide : 5 + 0 ≤ _), (by decide : 45 + 0 ≤ _)⟩)
      dsimp only [Pt.U, Pt.locs, Pt.cells, Pt.slots] at X168 l168 y168 z168 st168 hQ168
      rw [l168, y168, z168] at X168
      obtain ⟨rfl, Nq168, eq168⟩ := hQ168
      have N168 := Fr.app N159 Nq168
      refine own_tr st168 ?_
      refine own_st (fun _ k => XS.lstore X168.here hx rfl (hb hby at_248) rfl (l' := #[.val (.int u0), .val (.long u1), .second, .val (.long u2), .second, .val (.long (own_inv (-7046029254386353131 : Int64))), .second, .val (.int (2 : Int32)), .val (.int (2 : Int32)), .val (.ref b81), .val (.ref b92), .val (.ref b101), .val (.long (0 : Int64)), .second, .val (.long (0 : Int64)), .second, .unset]) rfl k) ?_
      refine own_st (fun _ k => XS.lload X168.here hx rfl (hb hby at_250) rfl k) ?_
      refine own_st (fun _ k => XS.lload X168.here hx rfl (hb hby at_252) rfl k) ?_
      show own_Go _ _ _ _ (T168.setTop (mkF m 254 #[.val (.int u0), .val (.long u1), .second, .val (.long u2), .second, .val (.long (own_inv (-7046029254386353131 : Int64))), .second, .val (.int (2 : Int32)), .val (.int (2 : Int32)), .val (.ref b81), .val (.ref b92), .val (.ref b101), .val (.long (0 : Int64)), .second, .val (.long (0 : Int64)), .second, .unset] [(.long (0 : Int64)), (.long (0 : Int64))]))
      refine own_st (fun _ k => XS.lcmp X168.here hx rfl (hb hby at_254) rfl k) ?_
      show own_Go _ _ _ _ (T168.setTop (mkF m 255 #[.val (.int u0), .val (.long u1), .second, .val (.long u2), .second, .val (.long (own_inv (-7046029254386353131 : Int64))), .second, .val (.int (2 : Int32)), .val (.int (2 : Int32)), .val (.ref b81), .val (.ref b92), .val (.ref b101), .val (.long (0 : Int64)), .second, .val (.long (0 : Int64)), .second, .unset] [(.int (lcmpW (0 : Int64) (0 : Int64)))]))
      rw [show (lcmpW (0 : Int64) (0 : Int64)) = (0 : Int32) from by decide]
      show own_Go _ _ _ _ (T168.setTop (mkF m 255 #[.val (.int u0), .val (.long u1), .second, .val (.long u2), .second, .val (.long (own_inv (-7046029254386353131 : Int64))), .second, .val (.int (2 : Int32)), .val (.int (2 : Int32)), .val (.ref b81), .val (.ref b92), .val (.ref b101), .val (.long (0 : Int64)), .second, .val (.long (0 : Int64)), .second, .unset] [(.int (0 : Int32))]))
      refine own_st (fun _ k => XS.ifNo X168.here hx rfl (hb hby at_255) rfl ((if0 _ _).trans (teq (by decide : ((0 : Int32) = (0 : Int32)))).2) k) ?_
      refine own_st (fun _ k => XS.iconst X168.here hx rfl (hb hby at_258) k) ?_
      refine own_st (fun _ k => XS.goto X168.here hx rfl (pc0 := 259) (pc' := 263) rfl (hb hby at_259) (by decide) (by decide) k) ?_
      refine own_st (fun _ k => XS.istore X168.here hx rfl (hb hby at_263) rfl (l' := #[.val (.int u0), .val (.long u1), .second, .val (.long u2), .second, .val (.long (own_inv (-7046029254386353131 : Int64))), .second, .val (.int (2 : Int32)), .val (.int (2 : Int32)), .val (.ref b81), .val (.ref b92), .val (.ref b101), .val (.long (0 : Int64)), .second, .val (.long (0 : Int64)), .second, .val (.int (1 : Int32))]) rfl k) ?_
      show own_Go _ _ _ _ (T168.setTop (mkF m 265 #[.val (.int u0), .val (.long u1), .second, .val (.long u2), .second, .val (.long (own_inv (-7046029254386353131 : Int64))), .second, .val (.int (2 : Int32)), .val (.int (2 : Int32)), .val (.ref b81), .val (.ref b92), .val (.ref b101), .val (.long (0 : Int64)), .second, .val (.long (0 : Int64)), .second, .val (.int (1 : Int32))] []))
      refine TAIL _ _ _ _ _ _ g0 g1 g2 g3 _ _ _ _ X168 eq168 VkN VwN z159_E_b101 Fq159_keys Fq159_values Fq159_slotBits z159_V_b81 z159_V_b92 N168 Z159 gf0 (by rw [if_pos (by decide), if_neg (by decide)]; exact gb0_ (by decide)) gf1 (by rw [if_pos (by decide), if_neg (by decide)]; exact gb1_ (by decide)) gf2 (by rw [if_neg (by decide)]; exact ga2_ (by decide)) gf3 (by rw [if_neg (by decide)]; exact ga3_ (by decide)) ?_
      intro TM lcM XM NM
      show own_Go _ _ _ _ (TM.setTop (mkF m 446 #[.val (.int u0), .val (.long u1), .second, .val (.long u2), .second, .val (.long (own_inv (-7046029254386353131 : Int64))), .second, .val (.int (2 : Int32)), .val (.int (2 : Int32)), .val (.ref b81), .val (.ref b92), .val (.ref b101), .val (.long (0 : Int64)), .second, .val (.long (0 : Int64)), .second, .val (.int (1 : Int32))] [(.int (1 : Int32))]))
      obtain ⟨fs, hr, hrun, hended, hW, hsame⟩ := XM.leave (v := some (.int (1 : Int32))) (fun h => by rw [Bd.returns] at h; cases h)
      refine own_out (retN XM hx (t := .boolean) Bd.returns (by simp) (hb hby at_446) hr) ⟨hrun, hended, _, _, rfl, ?_, ⟨_, rfl⟩, hW, hsame.mono (by decide) (by decide)⟩
      show Q0 Z u0 u1 u2 h0 n0 _ TM.heap _
      exact ⟨rfl, NM⟩
    · skip
      rw [hs160]
      have HT := own_H4 u0 u1 u2
      obtain ⟨ts, tq, es, er, eg0, eg1, eg2, eg3⟩ := own_chkE (own_c23 _ (own_offN u0 0).1 _ (own_offN u0 1).1 _ (own_offN u0 2).1 _ (own_offN u0 3).1)
      have ess : ts = tt := Option.some.inj (es.symm.trans etN)
      rw [ess] at er
      obtain ⟨rr, rf, rz, RQ⟩ := own_stepA HT RR2 (n := 2) (a := 3) (by decide) (by decide) er
      obtain ⟨g0, gf0, ga0_, gb0_⟩ := own_stepG HT RQ (q := 0) (by decide) eg0
      obtain ⟨g1, gf1, ga1_, gb1_⟩ := own_stepG HT RQ (q := 1) (by decide) eg1
      obtain ⟨g2, gf2, ga2_, gb2_⟩ := own_stepG HT RQ (q := 2) (by decide) eg2
      obtain ⟨g3, gf3, ga3_, gb3_⟩ := own_stepG HT RQ (q := 3) (by decide) eg3
      show own_Go _ _ _ _ (T159.setTop (mkF m 220 #[.val (.int u0), .val (.long u1), .second, .val (.long u2), .second, .val (.long (own_inv (-7046029254386353131 : Int64))), .second, .val (.int (2 : Int32)), .val (.int (3 : Int32)), .val (.ref b81), .val (.ref b92), .val (.ref b101), .unset, .unset, .unset, .unset, .unset] []))
      refine own_st (fun _ k => XS.iload X159.here hx rfl (hb hby at_220) rfl k) ?_
      refine own_st (fun _ k => XS.iload X159.here hx rfl (hb hby at_222) rfl k) ?_
      show own_Go _ _ _ _ (T159.setTop (mkF m 224 #[.val (.int u0), .val (.long u1), .second, .val (.long u2), .second, .val (.long (own_inv (-7046029254386353131 : Int64))), .second, .val (.int (2 : Int32)), .val (.int (3 : Int32)), .val (.ref b81), .val (.ref b92), .val (.ref b101), .unset, .unset, .unset, .unset, .unset] [(.int (2 : Int32)), (.int (3 : Int32))]))
      refine own_st (fun _ k => XS.icmpYes X159.here hx rfl (pc0 := 224) (pc' := 235) rfl (hb hby at_224) rfl (flt (by decide : ¬ ((3 : Int32) < (2 : Int32)))).2.1 (by decide) (by decide) k) ?_
      refine own_st (fun _ k => XS.lconst X159.here hx rfl (hb hby at_235) k) ?_
      refine own_st (fun _ k => XS.lstore X159.here hx rfl (hb hby at_236) rfl (l' := #[.val (.int u0), .val (.long u1), .second, .val (.long u2), .second, .val (.long (own_inv (-7046029254386353131 : Int64))), .second, .val (.int (2 : Int32)), .val (.int (3 : Int32)), .val (.ref b81), .val (.ref b92), .val (.ref b101), .val (.long (0 : Int64)), .second, .unset, .unset, .unset]) rfl k) ?_
      refine own_st (fun _ k => XS.aload X159.here hx rfl (hb hby at_238) rfl rfl k) ?_
      refine own_st (fun _ k => XS.aload X159.here hx rfl (hb hby at_240) rfl rfl k) ?_
      refine own_st (fun _ k => XS.iload X159.here hx rfl (hb hby at_242) rfl k) ?_
      show own_Go _ _ _ _ (T159.setTop (mkF m 244 #[.val (.int u0), .val (.long u1), .second, .val (.long u2), .second, .val (.long (own_inv (-7046029254386353131 : Int64))), .second, .val (.int (2 : Int32)), .val (.int (3 : Int32)), .val (.ref b81), .val (.ref b92), .val (.ref b101), .val (.long (0 : Int64)), .second, .unset, .unset, .unset] [(.int (3 : Int32)), (.ref b81), (.ref b101)]))
      obtain ⟨cl169, Ar169, -, Sz169, Nn169, Hs169, -⟩ := id z159_V_b81
      have hin169 : ¬ ((3 : Int32) < 0 ∨ cl169.slots.size ≤ ((3 : Int32)).toNatClampNeg) := inb_of Sz169 ⟨(by decide : ¬ ((3 : Int32) < (0 : Int32))), (by decide : (3 : Int32) < (5 : Int32))⟩
      have hat169 : cl169.slots[((3 : Int32)).toNatClampNeg]? = some (.long (own_kf u0 u1 3)) := Hs169.at hin169 rfl
      refine own_st (X159.laload hx (j := (3 : Int32)) (v := (.long (own_kf u0 u1 3))) Ar169.1 (State.isArrayOf_alike hZ.alike Ar169.2.1) Ar169.2.2 hin169 hat169 (g := (mkF m 244 #[.val (.int u0), .val (.long u1), .second, .val (.long u2), .second, .val (.long (own_inv (-7046029254386353131 : Int64))), .second, .val (.int (2 : Int32)), .val (.int (3 : Int32)), .val (.ref b81), .val (.ref b92), .val (.ref b101), .val (.long (0 : Int64)), .second, .unset, .unset, .unset] [(.int (3 : Int32)), (.ref b81), (.ref b101)])) rfl rfl (hb hby at_244)) ?_
      show own_Go _ _ _ _ (T159.setTop (mkF m 245 #[.val (.int u0), .val (.long u1), .second, .val (.long u2), .second, .val (.long (own_inv (-7046029254386353131 : Int64))), .second, .val (.int (2 : Int32)), .val (.int (3 : Int32)), .val (.ref b81), .val (.ref b92), .val (.ref b101), .val (.long (0 : Int64)), .second, .unset, .unset, .unset] [(.long (own_kf u0 u1 3)), (.ref b101)]))
      obtain ⟨cq170, kq170, q170a, q170b, q170c⟩ := isOf hZ rfl z159_E_b101
      obtain ⟨_, _, ⟨T170, L170, k170, n170⟩, -, X170, ⟨Lc170, hQ170, l170, y170, z170⟩, st170⟩ := X159.virtualBack hx (y := (⟨"quillvax/store/LongMap", "remove", "(J)J"⟩ : MethodName)) (z := (⟨"quillvax/store/LongMap", "remove", "(J)J"⟩ : MethodName)) hown (mvT hZ (hw _ (List.mem_of_getElem? (i := 34) rfl))) (mvT hZ (hw _ (List.mem_of_getElem? (i := 35) rfl))) (notFace_of_selects (args := #[]) (mvT hZ (hw _ (List.mem_of_getElem? (i := 37) rfl)))) (mvT hZ (hw _ (List.mem_of_getElem? (i := 37) rfl))) (mvT hZ (hw _ (List.mem_of_getElem? (i := 36) rfl))) (by decide) (backOf (W := 0) (rm7a l Z a0 hw [] b101 ka102 wa102 kk102 kw102 KN WN (own_kf u0 u1 3) rr T159.heap n0 Z159 z159_E_b101 Fq159_keys Fq159_values Fq159_slotBits VkN VwN rf rz) hZ (hw _ (List.mem_of_getElem? (i := 38) rfl)) (hw _ (List.mem_of_getElem? (i := 16) rfl)) (by decide) (by decide)) q170a q170c (g := (mkF m 245 #[.val (.int u0), .val (.long u1), .second, .val (.long u2), .second, .val (.long (own_inv (-7046029254386353131 : Int64))), .second, .val (.int (2 : Int32)), .val (.int (3 : Int32)), .val (.ref b81), .val (.ref b92), .val (.ref b101), .val (.long (0 : Int64)), .second, .unset, .unset, .unset] [(.long (own_kf u0 u1 3)), (.ref b101)])) rfl (by rw [hml]; rfl) (Steps.refl _) (argsL := [(.long (own_kf u0 u1 3))]) (rest := []) (lenOf own_pd0 rfl) rfl (by show 2 * 0 + _ ≤ _; exact Nat.le_of_eq rfl) (hb hby at_245) (fun _ _ => ⟨rfl, rfl, (by decide : 5 + 0 ≤ _), (by decide : 45 + 0 ≤ _)⟩)
      dsimp only [Pt.U, Pt.locs, Pt.cells, Pt.slots] at X170 l170 y170 z170 st170 hQ170
      rw [l170, y170, z170] at X170
      obtain ⟨rfl, Nq170, eq170⟩ := hQ170
      have N170 := Fr.app N159 Nq170
      refine own_tr st170 ?_
      refine own_st (fun _ k => XS.lstore X170.here hx rfl (hb hby at_248) rfl (l' := #[.val (.int u0), .val (.long u1), .second, .val (.long u2), .second, .val (.long (own_inv (-7046029254386353131 : Int64))), .second, .val (.int (2 : Int32)), .val (.int (3 : Int32)), .val (.ref b81), .val (.ref b92), .val (.ref b101), .val (.long (0 : Int64)), .second, .val (.long (0 : Int64)), .second, .unset]) rfl k) ?_
      refine own_st (fun _ k => XS.lload X170.here hx rfl (hb hby at_250) rfl k) ?_
      refine own_st (fun _ k => XS.lload X170.here hx rfl (hb hby at_252) rfl k) ?_
      show own_Go _ _ _ _ (T170.setTop (mkF m 254 #[.val (.int u0), .val (.long u1), .second, .val (.long u2), .second, .val (.long (own_inv (-7046029254386353131 : Int64))), .second, .val (.int (2 : Int32)), .val (.int (3 : Int32)), .val (.ref b81), .val (.ref b92), .val (.ref b101), .val (.long (0 : Int64)), .second, .val (.long (0 : Int64)), .second, .unset] [(.long (0 : Int64)), (.long (0 : Int64))]))
      refine own_st (fun _ k => XS.lcmp X170.here hx rfl (hb hby at_254) rfl k) ?_
      show own_Go _ _ _ _ (T170.setTop (mkF m 255 #[.val (.int u0), .val (.long u1), .second, .val (.long u2), .second, .val (.long (own_inv (-7046029254386353131 : Int64))), .second, .val (.int (2 : Int32)), .val (.int (3 : Int32)), .val (.ref b81), .val (.ref b92), .val (.ref b101), .val (.long (0 : Int64)), .second, .val (.long (0 : Int64)), .second, .unset] [(.int (lcmpW (0 : Int64) (0 : Int64)))]))
      rw [show (lcmpW (0 : Int64) (0 : Int64)) = (0 : Int32) from by decide]
      show own_Go _ _ _ _ (T170.setTop (mkF m 255 #[.val (.int u0), .val (.long u1), .second, .val (.long u2), .second, .val (.long (own_inv (-7046029254386353131 : Int64))), .second, .val (.int (2 : Int32)), .val (.int (3 : Int32)), .val (.ref b81), .val (.ref b92), .val (.ref b101), .val (.long (0 : Int64)), .second, .val (.long (0 : Int64)), .second, .unset] [(.int (0 : Int32))]))
      refine own_st (fun _ k => XS.ifNo X170.here hx rfl (hb hby at_255) rfl ((if0 _ _).trans (teq (by decide : ((0 : Int32) = (0 : Int32)))).2) k) ?_
      refine own_st (fun _ k => XS.iconst X170.here hx rfl (hb hby at_258) k) ?_
      refine own_st (fun _ k => XS.goto X170.here hx rfl (pc0 := 259) (pc' := 263) rfl (hb hby at_259) (by decide) (by decide) k) ?_
      refine own_st (fun _ k => XS.istore X170.here hx rfl (hb hby at_263) rfl (l' := #[.val (.int u0), .val (.long u1), .second, .val (.long u2), .second, .val (.long (own_inv (-7046029254386353131 : Int64))), .second, .val (.int (2 : Int32)), .val (.int (3 : Int32)), .val (.ref b81), .val (.ref b92), .val (.ref b101), .val (.long (0 : Int64)), .second, .val (.long (0 : Int64)), .second, .val (.int (1 : Int32))]) rfl k) ?_
      show own_Go _ _ _ _ (T170.setTop (mkF m 265 #[.val (.int u0), .val (.long u1), .second, .val (.long u2), .second, .val (.long (own_inv (-7046029254386353131 : Int64))), .second, .val (.int (2 : Int32)), .val (.int (3 : Int32)), .val (.ref b81), .val (.ref b92), .val (.ref b101), .val (.long (0 : Int64)), .second, .val (.long (0 : Int64)), .second, .val (.int (1 : Int32))] []))
      refine TAIL _ _ _ _ _ _ g0 g1 g2 g3 _ _ _ _ X170 eq170 VkN VwN z159_E_b101 Fq159_keys Fq159_values Fq159_slotBits z159_V_b81 z159_V_b92 N170 Z159 gf0 (by rw [if_pos (by decide), if_neg (by decide)]; exact gb0_ (by decide)) gf1 (by rw [if_pos (by decide), if_neg (by decide)]; exact gb1_ (by decide)) gf2 (by rw [if_neg (by decide)]; exact ga2_ (by decide)) gf3 (by rw [if_neg (by decide)]; exact ga3_ (by decide)) ?_
      intro TM lcM XM NM
      show own_Go _ _ _ _ (TM.setTop (mkF m 446 #[.val (.int u0), .val (.long u1), .second, .val (.long u2), .second, .val (.long (own_inv (-7046029254386353131 : Int64))), .second, .val (.int (2 : Int32)), .val (.int (3 : Int32)), .val (.ref b81), .val (.ref b92), .val (.ref b101), .val (.long (0 : Int64)), .second, .val (.long (0 : Int64)), .second, .val (.int (1 : Int32))] [(.int (1 : Int32))]))
      obtain ⟨fs, hr, hrun, hended, hW, hsame⟩ := XM.leave (v := some (.int (1 : Int32))) (fun h => by rw [Bd.returns] at h; cases h)
      refine own_out (retN XM hx (t := .boolean) Bd.returns (by simp) (hb hby at_446) hr) ⟨hrun, hended, _, _, rfl, ?_, ⟨_, rfl⟩, hW, hsame.mono (by decide) (by decide)⟩
      show Q0 Z u0 u1 u2 h0 n0 _ TM.heap _
      exact ⟨rfl, NM⟩
    · skip
      rw [hs160]
      have HT := own_H5 u0 u1 u2
      obtain ⟨ts, tq, es, er, eg0, eg1, eg2, eg3⟩ := own_chkE (own_c24 _ (own_offN u0 0).1 _ (own_offN u0 1).1 _ (own_offN u0 2).1 _ (own_offN u0 3).1 _ (own_offN u0 4).1)
      have ess : ts = tt := Option.some.inj (es.symm.trans etN)
      rw [ess] at er
      obtain ⟨rr, rf, rz, RQ⟩ := own_stepA HT RR2 (n := 2) (a := 4) (by decide) (by decide) er
      obtain ⟨g0, gf0, ga0_, gb0_⟩ := own_stepG HT RQ (q := 0) (by decide) eg0
      obtain ⟨g1, gf1, ga1_, gb1_⟩ := own_stepG HT RQ (q := 1) (by decide) eg1
      obtain ⟨g2, gf2, ga2_, gb2_⟩ := own_stepG HT RQ (q := 2) (by decide) eg2
      obtain ⟨g3, gf3, ga3_, gb3_⟩ := own_stepG HT RQ (q := 3) (by decide) eg3
      show own_Go _ _ _ _ (T159.setTop (mkF m 220 #[.val (.int u0), .val (.long u1), .second, .val (.long u2), .second, .val (.long (own_inv (-7046029254386353131 : Int64))), .second, .val (.int (2 : Int32)), .val (.int (4 : Int32)), .val (.ref b81), .val (.ref b92), .val (.ref b101), .unset, .unset, .unset, .unset, .unset] []))
      refine own_st (fun _ k => XS.iload X159.here hx rfl (hb hby at_220) rfl k) ?_
      refine own_st (fun _ k => XS.iload X159.here hx rfl (hb hby at_222) rfl k) ?_
      show own_Go _ _ _ _ (T159.setTop (mkF m 224 #[.val (.int u0), .val (.long u1), .second, .val (.long u2), .second, .val (.long (own_inv (-7046029254386353131 : Int64))), .second, .val (.int (2 : Int32)), .val (.int (4 : Int32)), .val (.ref b81), .val (.ref b92), .val (.ref b101), .unset, .unset, .unset, .unset, .unset] [(.int (2 : Int32)), (.int (4 : Int32))]))
      refine own_st (fun _ k => XS.icmpYes X159.here hx rfl (pc0 := 224) (pc' := 235) rfl (hb hby at_224) rfl (flt (by decide : ¬ ((4 : Int32) < (2 : Int32)))).2.1 (by decide) (by decide) k) ?_
      refine own_st (fun _ k => XS.lconst X159.here hx rfl (hb hby at_235) k) ?_
      refine own_st (fun _ k => XS.lstore X159.here hx rfl (hb hby at_236) rfl (l' := #[.val (.int u0), .val (.long u1), .second, .val (.long u2), .second, .val (.long (own_inv (-7046029254386353131 : Int64))), .second, .val (.int (2 : Int32)), .val (.int (4 : Int32)), .val (.ref b81), .val (.ref b92), .val (.ref b101), .val (.long (0 : Int64)), .second, .unset, .unset, .unset]) rfl k) ?_
      refine own_st (fun _ k => XS.aload X159.here hx rfl (hb hby at_238) rfl rfl k) ?_
      refine own_st (fun _ k => XS.aload X159.here hx rfl (hb hby at_240) rfl rfl k) ?_
      refine own_st (fun _ k => XS.iload X159.here hx rfl (hb hby at_242) rfl k) ?_
      show own_Go _ _ _ _ (T159.setTop (mkF m 244 #[.val (.int u0), .val (.long u1), .second, .val (.long u2), .second, .val (.long (own_inv (-7046029254386353131 : Int64))), .second, .val (.int (2 : Int32)), .val (.int (4 : Int32)), .val (.ref b81), .val (.ref b92), .val (.ref b101), .val (.long (0 : Int64)), .second, .unset, .unset, .unset] [(.int (4 : Int32)), (.ref b81), (.ref b101)]))
      obtain ⟨cl171, Ar171, -, Sz171, Nn171, Hs171, -⟩ := id z159_V_b81
      have hin171 : ¬ ((4 : Int32) < 0 ∨ cl171.slots.size ≤ ((4 : Int32)).toNatClampNeg) := inb_of Sz171 ⟨(by decide : ¬ ((4 : Int32) < (0 : Int32))), (by decide : (4 : Int32) < (5 : Int32))⟩
      have hat171 : cl171.slots[((4 : Int32)).toNatClampNeg]? = some (.long (own_kf u0 u1 4)) := Hs171.at hin171 rfl
      refine own_st (X159.laload hx (j := (4 : Int32)) (v := (.long (own_kf u0 u1 4))) Ar171.1 (State.isArrayOf_alike hZ.alike Ar171.2.1) Ar171.2.2 hin171 hat171 (g := (mkF m 244 #[.val (.int u0), .val (.long u1), .second, .val (.long u2), .second, .val (.long (own_inv (-7046029254386353131 : Int64))), .second, .val (.int (2 : Int32)), .val (.int (4 : Int32)), .val (.ref b81), .val (.ref b92), .val (.ref b101), .val (.long (0 : Int64)), .second, .unset, .unset, .unset] [(.int (4 : Int32)), (.ref b81), (.ref b101)])) rfl rfl (hb hby at_244)) ?_
      show own_Go _ _ _ _ (T159.setTop (mkF m 245 #[.val (.int u0), .val (.long u1), .second, .val (.long u2), .second, .val (.long (own_inv (-7046029254386353131 : Int64))), .second, .val (.int (2 : Int32)), .val (.int (4 : Int32)), .val (.ref b81), .val (.ref b92), .val (.ref b101), .val (.long (0 : Int64)), .second, .unset, .unset, .unset] [(.long (own_kf u0 u1 4)), (.ref b101)]))
      obtain ⟨cq172, kq172, q172a, q172b, q172c⟩ := isOf hZ rfl z159_E_b101
      obtain ⟨_, _, ⟨T172, L172, k172, n172⟩, -, X172, ⟨Lc172, hQ172, l172, y172, z172⟩, st172⟩ := X159.virtualBack hx (y := (⟨"quillvax/store/LongMap", "remove", "(J)J"⟩ : MethodName)) (z := (⟨"quillvax/store/LongMap", "remove", "(J)J"⟩ : MethodName)) hown (mvT hZ (hw _ (List.mem_of_getElem? (i := 34) rfl))) (mvT hZ (hw _ (List.mem_of_getElem? (i := 35) rfl))) (notFace_of_selects (args := #[]) (mvT hZ (hw _ (List.mem_of_getElem? (i := 37) rfl)))) (mvT hZ (hw _ (List.mem_of_getElem? (i := 37) rfl))) (mvT hZ (hw _ (List.mem_of_getElem? (i := 36) rfl))) (by decide) (backOf (W := 0) (rm7a l Z a0 hw [] b101 ka102 wa102 kk102 kw102 KN WN (own_kf u0 u1 4) rr T159.heap n0 Z159 z159_E_b101 Fq159_keys Fq159_values Fq159_slotBits VkN VwN rf rz) hZ (hw _ (List.mem_of_getElem? (i := 38) rfl)) (hw _ (List.mem_of_getElem? (i := 16) rfl)) (by decide) (by decide)) q172a q172c (g := (mkF m 245 #[.val (.int u0), .val (.long u1), .second, .val (.long u2), .second, .val (.long (own_inv (-7046029254386353131 : Int64))), .second, .val (.int (2 : Int32)), .val (.int (4 : Int32)), .val (.ref b81), .val (.ref b92), .val (.ref b101), .val (.long (0 : Int64)), .second, .unset, .unset, .unset] [(.long (own_kf u0 u1 4)), (.ref b101)])) rfl (by rw [hml]; rfl) (Steps.refl _) (argsL := [(.long (own_kf u0 u1 4))]) (rest := []) (lenOf own_pd0 rfl) rfl (by show 2 * 0 + _ ≤ _; exact Nat.le_of_eq rfl) (hb hby at_245) (fun _ _ => ⟨rfl, rfl, (by decide : 5 + 0 ≤ _), (by decide : 45 + 0 ≤ _)⟩)
      dsimp only [Pt.U, Pt.locs, Pt.cells, Pt.slots] at X172 l172 y172 z172 st172 hQ172
      rw [l172, y172, z172] at X172
      obtain ⟨rfl, Nq172, eq172⟩ := hQ172
      have N172 := Fr.app N159 Nq172
      refine own_tr st172 ?_
      refine own_st (fun _ k => XS.lstore X172.here hx rfl (hb hby at_248) rfl (l' := #[.val (.int u0), .val (.long u1), .second, .val (.long u2), .second, .val (.long (own_inv (-7046029254386353131 : Int64))), .second, .val (.int (2 : Int32)), .val (.int (4 : Int32)), .val (.ref b81), .val (.ref b92), .val (.ref b101), .val (.long (0 : Int64)), .second, .val (.long (0 : Int64)), .second, .unset]) rfl k) ?_
      refine own_st (fun _ k => XS.lload X172.here hx rfl (hb hby at_250) rfl k) ?_
      refine own_st (fun _ k => XS.lload X172.here hx rfl (hb hby at_252) rfl k) ?_
      show own_Go _ _ _ _ (T172.setTop (mkF m 254 #[.val (.int u0), .val (.long u1), .second, .val (.long u2), .second, .val (.long (own_inv (-7046029254386353131 : Int64))), .second, .val (.int (2 : Int32)), .val (.int (4 : Int32)), .val (.ref b81), .val (.ref b92), .val (.ref b101), .val (.long (0 : Int64)), .second, .val (.long (0 : Int64)), .second, .unset] [(.long (0 : Int64)), (.long (0 : Int64))]))
      refine own_st (fun _ k => XS.lcmp X172.here hx rfl (hb hby at_254) rfl k) ?_
      show own_Go _ _ _ _ (T172.setTop (mkF m 255 #[.val (.int u0), .val (.long u1), .second, .val (.long u2), .second, .val (.long (own_inv (-7046029254386353131 : Int64))), .second, .val (.int (2 : Int32)), .val (.int (4 : Int32)), .val (.ref b81), .val (.ref b92), .val (.ref b101), .val (.long (0 : Int64)), .second, .val (.long (0 : Int64)), .second, .unset] [(.int (lcmpW (0 : Int64) (0 : Int64)))]))
      rw [show (lcmpW (0 : Int64) (0 : Int64)) = (0 : Int32) from by decide]
      show own_Go _ _ _ _ (T172.setTop (mkF m 255 #[.val (.int u0), .val (.long u1), .second, .val (.long u2), .second, .val (.long (own_inv (-7046029254386353131 : Int64))), .second, .val (.int (2 : Int32)), .val (.int (4 : Int32)), .val (.ref b81), .val (.ref b92), .val (.ref b101), .val (.long (0 : Int64)), .second, .val (.long (0 : Int64)), .second, .unset] [(.int (0 : Int32))]))
      refine own_st (fun _ k => XS.ifNo X172.here hx rfl (hb hby at_255) rfl ((if0 _ _).trans (teq (by decide : ((0 : Int32) = (0 : Int32)))).2) k) ?_
      refine own_st (fun _ k => XS.iconst X172.here hx rfl (hb hby at_258) k) ?_
      refine own_st (fun _ k => XS.goto X172.here hx rfl (pc0 := 259) (pc' := 263) rfl (hb hby at_259) (by decide) (by decide) k) ?_
      refine own_st (fun _ k => XS.istore X172.here hx rfl (hb hby at_263) rfl (l' := #[.val (.int u0), .val (.long u1), .second, .val (.long u2), .second, .val (.long (own_inv (-7046029254386353131 : Int64))), .second, .val (.int (2 : Int32)), .val (.int (4 : Int32)), .val (.ref b81), .val (.ref b92), .val (.ref b101), .val (.long (0 : Int64)), .second, .val (.long (0 : Int64)), .second, .val (.int (1 : Int32))]) rfl k) ?_
      show own_Go _ _ _ _ (T172.setTop (mkF m 265 #[.val (.int u0), .val (.long u1), .second, .val (.long u2), .second, .val (.long (own_inv (-7046029254386353131 : Int64))), .second, .val (.int (2 : Int32)), .val (.int (4 : Int32)), .val (.ref b81), .val (.ref b92), .val (.ref b101), .val (.long (0 : Int64)), .second, .val (.long (0 : Int64)), .second, .val (.int (1 : Int32))] []))
      refine TAIL _ _ _ _ _ _ g0 g1 g2 g3 _ _ _ _ X172 eq172 VkN VwN z159_E_b101 Fq159_keys Fq159_values Fq159_slotBits z159_V_b81 z159_V_b92 N172 Z159 gf0 (by rw [if_pos (by decide), if_neg (by decide)]; exact gb0_ (by decide)) gf1 (by rw [if_pos (by decide), if_neg (by decide)]; exact gb1_ (by decide)) gf2 (by rw [if_neg (by decide)]; exact ga2_ (by decide)) gf3 (by rw [if_neg (by decide)]; exact ga3_ (by decide)) ?_
      intro TM lcM XM NM
      show own_Go _ _ _ _ (TM.setTop (mkF m 446 #[.val (.int u0), .val (.long u1), .second, .val (.long u2), .second, .val (.long (own_inv (-7046029254386353131 : Int64))), .second, .val (.int (2 : Int32)), .val (.int (4 : Int32)), .val (.ref b81), .val (.ref b92), .val (.ref b101), .val (.long (0 : Int64)), .second, .val (.long (0 : Int64)), .second, .val (.int (1 : Int32))] [(.int (1 : Int32))]))
      obtain ⟨fs, hr, hrun, hended, hW, hsame⟩ := XM.leave (v := some (.int (1 : Int32))) (fun h => by rw [Bd.returns] at h; cases h)
      refine own_out (retN XM hx (t := .boolean) Bd.returns (by simp) (hb hby at_446) hr) ⟨hrun, hended, _, _, rfl, ?_, ⟨_, rfl⟩, hW, hsame.mono (by decide) (by decide)⟩
      show Q0 Z u0 u1 u2 h0 n0 _ TM.heap _
      exact ⟨rfl, NM⟩
  · skip
    rw [hs127]
    have HH := own_H5 u0 u1 u2
    obtain ⟨tt, -, et3, -⟩ := own_chkE (own_c34 _ (own_offN u0 0).1 _ (own_offN u0 1).1 _ (own_offN u0 2).1 _ (own_offN u0 3).1 _ (own_offN u0 4).1)
    have etN := et3
    obtain ⟨tb2, jb2, et2, ef2, ez2, es2⟩ := own_tblS et3
    obtain ⟨tb1, jb1, et1, ef1, ez1, es1⟩ := own_tblS et2
    obtain ⟨tb0, jb0, et0, ef0, ez0, es0⟩ := own_tblS et1
    have RR0 := own_R0 (own_kf u0 u1) (own_vf u2) (own_base u0)
    have eb0 : tb0 = List.replicate 16 0 := (Option.some.inj et0).symm
    rw [← eb0] at RR0
    obtain ⟨r0, f0, z0, RR1⟩ := own_stepP HH RR0 (a := 0) (by decide) ef0 ez0 es0
    obtain ⟨r1, f1, z1, RR2⟩ := own_stepP HH RR1 (a := 1) (by decide) ef1 ez1 es1
    obtain ⟨r2, f2, z2, RR3⟩ := own_stepP HH RR2 (a := 2) (by decide) ef2 ez2 es2
    obtain ⟨KN, eKN⟩ : ∃ z, (own_upd (own_upd (own_upd own_z r0 (own_kf u0 u1 0)) r1 (own_kf u0 u1 1)) r2 (own_kf u0 u1 2)) = z := ⟨_, rfl⟩
    obtain ⟨WN, eWN⟩ : ∃ z, (own_upd (own_upd (own_upd own_z r0 (own_vf u2 0)) r1 (own_vf u2 1)) r2 (own_vf u2 2)) = z := ⟨_, rfl⟩
    rw [eKN, eWN] at RR3
    show own_Go _ _ _ _ (T102.setTop (mkF m 145 #[.val (.int u0), .val (.long u1), .second, .val (.long u2), .second, .val (.long (own_inv (-7046029254386353131 : Int64))), .second, .val (.int (3 : Int32)), .val (.int ((((u0.toUInt32 >>> ((14 : Int32) &&& 31).toUInt32).toInt32) &&& (7 : Int32)) - ((((u0.toUInt32 >>> ((14 : Int32) &&& 31).toUInt32).toInt32) &&& (7 : Int32)) / (5 : Int32)) * (5 : Int32))), .val (.ref b81), .val (.ref b92), .val (.ref b101), .unset, .unset, .unset, .unset, .unset] []))
    refine own_st (fun _ k => XS.iload X102.here hx rfl (hb hby at_145) rfl k) ?_
    show own_Go _ _ _ _ (T102.setTop (mkF m 147 #[.val (.int u0), .val (.long u1), .second, .val (.long u2), .second, .val (.long (own_inv (-7046029254386353131 : Int64))), .second, .val (.int (3 : Int32)), .val (.int ((((u0.toUInt32 >>> ((14 : Int32) &&& 31).toUInt32).toInt32) &&& (7 : Int32)) - ((((u0.toUInt32 >>> ((14 : Int32) &&& 31).toUInt32).toInt32) &&& (7 : Int32)) / (5 : Int32)) * (5 : Int32))), .val (.ref b81), .val (.ref b92), .val (.ref b101), .unset, .unset, .unset, .unset, .unset] [(.int (3 : Int32))]))
    refine own_st (fun _ k => XS.ifNo X102.here hx rfl (hb hby at_147) rfl ((if0 _ _).trans (tlt (by decide : ((0 : Int32) < (3 : Int32)))).2.2.2) k) ?_
    refine own_st (fun _ k => XS.aload X102.here hx rfl (hb hby at_150) rfl rfl k) ?_
    refine own_st (fun _ k => XS.aload X102.here hx rfl (hb hby at_152) rfl rfl k) ?_
    refine own_st (fun _ k => XS.iconst X102.here hx rfl (hb hby at_154) k) ?_
    show own_Go _ _ _ _ (T102.setTop (mkF m 155 #[.val (.int u0), .val (.long u1), .second, .val (.long u2), .second, .val (.long (own_inv (-7046029254386353131 : Int64))), .second, .val (.int (3 : Int32)), .val (.int ((((u0.toUInt32 >>> ((14 : Int32) &&& 31).toUInt32).toInt32) &&& (7 : Int32)) - ((((u0.toUInt32 >>> ((14 : Int32) &&& 31).toUInt32).toInt32) &&& (7 : Int32)) / (5 : Int32)) * (5 : Int32))), .val (.ref b81), .val (.ref b92), .val (.ref b101), .unset, .unset, .unset, .unset, .unset] [(.int (0 : Int32)), (.ref b81), (.ref b101)]))
    obtain ⟨cl173, Ar173, -, Sz173, Nn173, Hs173, -⟩ := id z102_V_b81
    have hin173 : ¬ ((0 : Int32) < 0 ∨ cl173.slots.size ≤ ((0 : Int32)).toNatClampNeg) := inb_of Sz173 ⟨(by decide : ¬ ((0 : Int32) < (0 : Int32))), (by decide : (0 : Int32) < (5 : Int32))⟩
    have hat173 : cl173.slots[((0 : Int32)).toNatClampNeg]? = some (.long (own_kf u0 u1 0)) := Hs173.at hin173 rfl
    refine own_st (X102.laload hx (j := (0 : Int32)) (v := (.long (own_kf u0 u1 0))) Ar173.1 (State.isArrayOf_alike hZ.alike Ar173.2.1) Ar173.2.2 hin173 hat173 (g := (mkF m 155 #[.val (.int u0), .val (.long u1), .second, .val (.long u2), .second, .val (.long (own_inv (-7046029254386353131 : Int64))), .second, .val (.int (3 : Int32)), .val (.int ((((u0.toUInt32 >>> ((14 : Int32) &&& 31).toUInt32).toInt32) &&& (7 : Int32)) - ((((u0.toUInt32 >>> ((14 : Int32) &&& 31).toUInt32).toInt32) &&& (7 : Int32)) / (5 : Int32)) * (5 : Int32))), .val (.ref b81), .val (.ref b92), .val (.ref b101), .unset, .unset, .unset, .unset, .unset] [(.int (0 : Int32)), (.ref b81), (.ref b101)])) rfl rfl (hb hby at_155)) ?_
    refine own_st (fun _ k => XS.aload X102.here hx rfl (hb hby at_156) rfl rfl k) ?_
    refine own_st (fun _ k => XS.iconst X102.here hx rfl (hb hby at_158) k) ?_
    show own_Go _ _ _ _ (T102.setTop (mkF m 159 #[.val (.int u0), .val (.long u1), .second, .val (.long u2), .second, .val (.long (own_inv (-7046029254386353131 : Int64))), .second, .val (.int (3 : Int32)), .val (.int ((((u0.toUInt32 >>> ((14 : Int32) &&& 31).toUInt32).toInt32) &&& (7 : Int32)) - ((((u0.toUInt32 >>> ((14 : Int32) &&& 31).toUInt32).toInt32) &&& (7 : Int32)) / (5 : Int32)) * (5 : Int32))), .val (.ref b81), .val (.ref b92), .val (.ref b101), .unset, .unset, .unset, .unset, .unset] [(.int (0 : Int32)), (.ref b92), (.long (own_kf u0 u1 0)), (.ref b101)]))
    obtain ⟨cl174, Ar174, -, Sz174, Nn174, Hs174, -⟩ := id z102_V_b92
    have hin174 : ¬ ((0 : Int32) < 0 ∨ cl174.slots.size ≤ ((0 : Int32)).toNatClampNeg) := inb_of Sz174 ⟨(by decide : ¬ ((0 : Int32) < (0 : Int32))), (by decide : (0 : Int32) < (4 : Int32))⟩
    have hat174 : cl174.slots[((0 : Int32)).toNatClampNeg]? = some (.long (own_vf u2 0)) := Hs174.at hin174 rfl
    refine own_st (X102.laload hx (j := (0 : Int32)) (v := (.long (own_vf u2 0))) Ar174.1 (State.isArrayOf_alike hZ.alike Ar174.2.1) Ar174.2.2 hin174 hat174 (g := (mkF m 159 #[.val (.int u0), .val (.long u1), .second, .val (.long u2), .second, .val (.long (own_inv (-7046029254386353131 : Int64))), .second, .val (.int (3 : Int32)), .val (.int ((((u0.toUInt32 >>> ((14 : Int32) &&& 31).toUInt32).toInt32) &&& (7 : Int32)) - ((((u0.toUInt32 >>> ((14 : Int32) &&& 31).toUInt32).toInt32) &&& (7 : Int32)) / (5 : Int32)) * (5 : Int32))), .val (.ref b81), .val (.ref b92), .val (.ref b101), .unset, .unset, .unset, .unset, .unset] [(.int (0 : Int32)), (.ref b92), (.long (own_kf u0 u1 0)), (.ref b101)])) rfl rfl (hb hby at_159)) ?_
    show own_Go _ _ _ _ (T102.setTop (mkF m 160 #[.val (.int u0), .val (.long u1), .second, .val (.long u2), .second, .val (.long (own_inv (-7046029254386353131 : Int64))), .second, .val (.int (3 : Int32)), .val (.int ((((u0.toUInt32 >>> ((14 : Int32) &&& 31).toUInt32).toInt32) &&& (7 : Int32)) - ((((u0.toUInt32 >>> ((14 : Int32) &&& 31).toUInt32).toInt32) &&& (7 : Int32)) / (5 : Int32)) * (5 : Int32))), .val (.ref b81), .val (.ref b92), .val (.ref b101), .unset, .unset, .unset, .unset, .unset] [(.long (own_vf u2 0)), (.long (own_kf u0 u1 0)), (.ref b101)]))
    obtain ⟨cq175, kq175, q175a, q175b, q175c⟩ := isOf hZ rfl z102_E_b101
    obtain ⟨_, _, ⟨T175, L175, k175, n175⟩, -, X175, ⟨Lc175, hQ175, l175, y175, z175⟩, st175⟩ := X102.virtualBack hx (y := (⟨"quillvax/store/LongMap", "put", "(JJ)V"⟩ : MethodName)) (z := (⟨"quillvax/store/LongMap", "put", "(JJ)V"⟩ : MethodName)) hown (mvT hZ (hw _ (List.mem_of_getElem? (i := 53) rfl))) (mvT hZ (hw _ (List.mem_of_getElem? (i := 54) rfl))) (notFace_of_selects (args := #[]) (mvT hZ (hw _ (List.mem_of_getElem? (i := 56) rfl)))) (mvT hZ (hw _ (List.mem_of_getElem? (i := 56) rfl))) (mvT hZ (hw _ (List.mem_of_getElem? (i := 55) rfl))) (by decide) (backOf (W := 0) (rm11 l Z a0 hw [] b101 ka102 wa102 kk102 kw102 own_z own_z (own_kf u0 u1 0) (own_vf u2 0) r0 (0 : Int32) T102.heap n0 Z102 z102_E_b101 Fq102_keys Fq102_values Fq102_slotBits Fq102_size Vk102 Vw102 gnb101 gnka102 gnwa102 neb101_ka102 neb101_wa102 nk102 f0 (fun q => own_vnz u2 0 (by decide) ((lw_eq _ _).mp q)) z0 (by decide)) hZ (hw _ (List.mem_of_getElem? (i := 57) rfl)) (hw _ (List.mem_of_getElem? (i := 16) rfl)) (by decide) (by decide)) q175a q175c (g := (mkF m 160 #[.val (.int u0), .val (.long u1), .second, .val (.long u2), .second, .val (.long (own_inv (-7046029254386353131 : Int64))), .second, .val (.int (3 : Int32)), .val (.int ((((u0.toUInt32 >>> ((14 : Int32) &&& 31).toUInt32).toInt32) &&& (7 : Int32)) - ((((u0.toUInt32 >>> ((14 : Int32) &&& 31).toUInt32).toInt32) &&& (7 : Int32)) / (5 : Int32)) * (5 : Int32))), .val (.ref b81), .val (.ref b92), .val (.ref b101), .unset, .unset, .unset, .unset, .unset] [(.long (own_vf u2 0)), (.long (own_kf u0 u1 0)), (.ref b101)])) rfl (by rw [hml]; rfl) (Steps.refl _) (argsL := [(.long (own_kf u0 u1 0)), (.long (own_vf u2 0))]) (rest := []) (lenOf own_pd8 rfl) rfl (by show 2 * 0 + _ ≤ _; exact Nat.le_of_eq rfl) (hb hby at_160) (fun _ _ => ⟨rfl, rfl, (by decide : 5 + 0 ≤ _), (by decide : 45 + 0 ≤ _)⟩)
    dsimp only [Pt.U, Pt.locs, Pt.cells, Pt.slots] at X175 l175 y175 z175 st175 hQ175
    rw [l175, y175, z175] at X175
    obtain ⟨rfl, Nq175, Kq175, Eq175, Fq175_keys, Fq175_values, Fq175_slotBits, Fq175_size, Vk175, Vw175⟩ := hQ175
    have N175 := Fr.app N102 Nq175
    refine own_tr st175 ?_
    have z175_V_b81 := z102_V_b81.keep Kq175 (ninS neb81_b101 (ninS neb81_ka102 (ninS neb81_wa102 nin0)))
    have z175_V_b92 := z102_V_b92.keep Kq175 (ninS neb92_b101 (ninS neb92_ka102 (ninS neb92_wa102 nin0)))
    have z175_E_b101 := z102_E_b101.keep Kq175
    have Z175 : n0 ≤ T175.heap.size := Nat.le_trans Z102 Kq175.1
    have Kk175 : Keep h0 T175.heap [] := Kk102.trans Kq175 (allS (Or.inr gkb101) (allS (Or.inr gkka102) (allS (Or.inr gkwa102) all0)))
    have Fz175 : Fld Z T175.heap b101 "quillvax/store/LongMap" "size" "I" (.int (1 : Int32)) := Fq175_size
    refine own_st (fun _ k => XS.iload X175.here hx rfl (hb hby at_163) rfl k) ?_
    refine own_st (fun _ k => XS.iconst X175.here hx rfl (hb hby at_165) k) ?_
    show own_Go _ _ _ _ (T175.setTop (mkF m 166 #[.val (.int u0), .val (.long u1), .second, .val (.long u2), .second, .val (.long (own_inv (-7046029254386353131 : Int64))), .second, .val (.int (3 : Int32)), .val (.int ((((u0.toUInt32 >>> ((14 : Int32) &&& 31).toUInt32).toInt32) &&& (7 : Int32)) - ((((u0.toUInt32 >>> ((14 : Int32) &&& 31).toUInt32).toInt32) &&& (7 : Int32)) / (5 : Int32)) * (5 : Int32))), .val (.ref b81), .val (.ref b92), .val (.ref b101), .unset, .unset, .unset, .unset, .unset] [(.int (1 : Int32)), (.int (3 : Int32))]))
    refine own_st (fun _ k => XS.icmpNo X175.here hx rfl (hb hby at_166) rfl (tlt (by decide : ((1 : Int32) < (3 : Int32)))).2.2.2 k) ?_
    refine own_st (fun _ k => XS.aload X175.here hx rfl (hb hby at_169) rfl rfl k) ?_
    refine own_st (fun _ k => XS.aload X175.here hx rfl (hb hby at_171) rfl rfl k) ?_
    refine own_st (fun _ k => XS.iconst X175.here hx rfl (hb hby at_173) k) ?_
    show own_Go _ _ _ _ (T175.setTop (mkF m 174 #[.val (.int u0), .val (.long u1), .second, .val (.long u2), .second, .val (.long (own_inv (-7046029254386353131 : Int64))), .second, .val (.int (3 : Int32)), .val (.int ((((u0.toUInt32 >>> ((14 : Int32) &&& 31).toUInt32).toInt32) &&& (7 : Int32)) - ((((u0.toUInt32 >>> ((14 : Int32) &&& 31).toUInt32).toInt32) &&& (7 : Int32)) / (5 : Int32)) * (5 : Int32))), .val (.ref b81), .val (.ref b92), .val (.ref b101), .unset, .unset, .unset, .unset, .unset] [(.int (1 : Int32)), (.ref b81), (.ref b101)]))
    obtain ⟨cl176, Ar176, -, Sz176, Nn176, Hs176, -⟩ := id z175_V_b81
    have hin176 : ¬ ((1 : Int32) < 0 ∨ cl176.slots.size ≤ ((1 : Int32)).toNatClampNeg) := inb_of Sz176 ⟨(by decide : ¬ ((1 : Int32) < (0 : Int32))), (by decide : (1 : Int32) < (5 : Int32))⟩
    have hat176 : cl176.slots[((1 : Int32)).toNatClampNeg]? = some (.long (own_kf u0 u1 1)) := Hs176.at hin176 rfl
    refine own_st (X175.laload hx (j := (1 : Int32)) (v := (.long (own_kf u0 u1 1))) Ar176.1 (State.isArrayOf_alike hZ.alike Ar176.2.1) Ar176.2.2 hin176 hat176 (g := (mkF m 174 #[.val (.int u0), .val (.long u1), .second, .val (.long u2), .second, .val (.long (own_inv (-7046029254386353131 : Int64))), .second, .val (.int (3 : Int32)), .val (.int ((((u0.toUInt32 >>> ((14 : Int32) &&& 31).toUInt32).toInt32) &&& (7 : Int32)) - ((((u0.toUInt32 >>> ((14 : Int32) &&& 31).toUInt32).toInt32) &&& (7 : Int32)) / (5 : Int32)) * (5 : Int32))), .val (.ref b81), .val (.ref b92), .val (.ref b101), .unset, .unset, .unset, .unset, .unset] [(.int (1 : Int32)), (.ref b81), (.ref b101)])) rfl rfl (hb hby at_174)) ?_
    refine own_st (fun _ k => XS.aload X175.here hx rfl (hb hby at_175) rfl rfl k) ?_
    refine own_st (fun _ k => XS.iconst X175.here hx rfl (hb hby at_177) k) ?_
    show own_Go _ _ _ _ (T175.setTop (mkF m 178 #[.val (.int u0), .val (.long u1), .second, .val (.long u2), .second, .val (.long (own_inv (-7046029254386353131 : Int64))), .second, .val (.int (3 : Int32)), .val (.int ((((u0.toUInt32 >>> ((14 : Int32) &&& 31).toUInt32).toInt32) &&& (7 : Int32)) - ((((u0.toUInt32 >>> ((14 : Int32) &&& 31).toUInt32).toInt32) &&& (7 : Int32)) / (5 : Int32)) * (5 : Int32))), .val (.ref b81), .val (.ref b92), .val (.ref b101), .unset, .unset, .unset, .unset, .unset] [(.int (1 : Int32)), (.ref b92), (.long (own_kf u0 u1 1)), (.ref b101)]))
    obtain ⟨cl177, Ar177, -, Sz177, Nn177, Hs177, -⟩ := id z175_V_b92
    have hin177 : ¬ ((1 : Int32) < 0 ∨ cl177.slots.size ≤ ((1 : Int32)).toNatClampNeg) := inb_of Sz177 ⟨(by decide : ¬ ((1 : Int32) < (0 : Int32))), (by decide : (1 : Int32) < (4 : Int32))⟩
    have hat177 : cl177.slots[((1 : Int32)).toNatClampNeg]? = some (.long (own_vf u2 1)) := Hs177.at hin177 rfl
    refine own_st (X175.laload hx (j := (1 : Int32)) (v := (.long (own_vf u2 1))) Ar177.1 (State.isArrayOf_alike hZ.alike Ar177.2.1) Ar177.2.2 hin177 hat177 (g := (mkF m 178 #[.val (.int u0), .val (.long u1), .second, .val (.long u2), .second, .val (.long (own_inv (-7046029254386353131 : Int64))), .second, .val (.int (3 : Int32)), .val (.int ((((u0.toUInt32 >>> ((14 : Int32) &&& 31).toUInt32).toInt32) &&& (7 : Int32)) - ((((u0.toUInt32 >>> ((14 : Int32) &&& 31).toUInt32).toInt32) &&& (7 : Int32)) / (5 : Int32)) * (5 : Int32))), .val (.ref b81), .val (.ref b92), .val (.ref b101), .unset, .unset, .unset, .unset, .unset] [(.int (1 : Int32)), (.ref b92), (.long (own_kf u0 u1 1)), (.ref b101)])) rfl rfl (hb hby at_178)) ?_
    show own_Go _ _ _ _ (T175.setTop (mkF m 179 #[.val (.int u0), .val (.long u1), .second, .val (.long u2), .second, .val (.long (own_inv (-7046029254386353131 : Int64))), .second, .val (.int (3 : Int32)), .val (.int ((((u0.toUInt32 >>> ((14 : Int32) &&& 31).toUInt32).toInt32) &&& (7 : Int32)) - ((((u0.toUInt32 >>> ((14 : Int32) &&& 31).toUInt32).toInt32) &&& (7 : Int32)) / (5 : Int32)) * (5 : Int32))), .val (.ref b81), .val (.ref b92), .val (.ref b101), .unset, .unset, .unset, .unset, .unset] [(.long (own_vf u2 1)), (.long (own_kf u0 u1 1)), (.ref b101)]))
    obtain ⟨cq178, kq178, q178a, q178b, q178c⟩ := isOf hZ rfl z175_E_b101
    obtain ⟨_, _, ⟨T178, L178, k178, n178⟩, -, X178, ⟨Lc178, hQ178, l178, y178, z178⟩, st178⟩ := X175.virtualBack hx (y := (⟨"quillvax/store/LongMap", "put", "(JJ)V"⟩ : MethodName)) (z := (⟨"quillvax/store/LongMap", "put", "(JJ)V"⟩ : MethodName)) hown (mvT hZ (hw _ (List.mem_of_getElem? (i := 53) rfl))) (mvT hZ (hw _ (List.mem_of_getElem? (i := 54) rfl))) (notFace_of_selects (args := #[]) (mvT hZ (hw _ (List.mem_of_getElem? (i := 56) rfl)))) (mvT hZ (hw _ (List.mem_of_getElem? (i := 56) rfl))) (mvT hZ (hw _ (List.mem_of_getElem? (i := 55) rfl))) (by decide) (backOf (W := 0) (rm11 l Z a0 hw [] b101 ka102 wa102 kk102 kw102 (own_upd own_z r0 (own_kf u0 u1 0)) (own_upd own_z r0 (own_vf u2 0)) (own_kf u0 u1 1) (own_vf u2 1) r1 (1 : Int32) T175.heap n0 Z175 z175_E_b101 Fq175_keys Fq175_values Fq175_slotBits Fz175 Vk175 Vw175 gnb101 gnka102 gnwa102 neb101_ka102 neb101_wa102 nk102 f1 (fun q => own_vnz u2 1 (by decide) ((lw_eq _ _).mp q)) z1 (by decide)) hZ (hw _ (List.mem_of_getElem? (i := 57) rfl)) (hw _ (List.mem_of_getElem? (i := 16) rfl)) (by decide) (by decide)) q178a q178c (g := (mkF m 179 #[.val (.int u0), .val (.long u1), .second, .val (.long u2), .second, .val (.long (own_inv (-7046029254386353131 : Int64))), .second, .val (.int (3 : Int32)), .val (.int ((((u0.toUInt32 >>> ((14 : Int32) &&& 31).toUInt32).toInt32) &&& (7 : Int32)) - ((((u0.toUInt32 >>> ((14 : Int32) &&& 31).toUInt32).toInt32) &&& (7 : Int32)) / (5 : Int32)) * (5 : Int32))), .val (.ref b81), .val (.ref b92), .val (.ref b101), .unset, .unset, .unset, .unset, .unset] [(.long (own_vf u2 1)), (.long (own_kf u0 u1 1)), (.ref b101)])) rfl (by rw [hml]; rfl) (Steps.refl _) (argsL := [(.long (own_kf u0 u1 1)), (.long (own_vf u2 1))]) (rest := []) (lenOf own_pd8 rfl) rfl (by show 2 * 0 + _ ≤ _; exact Nat.le_of_eq rfl) (hb hby at_179) (fun _ _ => ⟨rfl, rfl, (by decide : 5 + 0 ≤ _), (by decide : 45 + 0 ≤ _)⟩)
    dsimp only [Pt.U, Pt.locs, Pt.cells, Pt.slots] at X178 l178 y178 z178 st178 hQ178
    rw [l178, y178, z178] at X178
    obtain ⟨rfl, Nq178, Kq178, Eq178, Fq178_keys, Fq178_values, Fq178_slotBits, Fq178_size, Vk178, Vw178⟩ := hQ178
    have N178 := Fr.app N175 Nq178
    refine own_tr st178 ?_
    have z178_V_b81 := z175_V_b81.keep Kq178 (ninS neb81_b101 (ninS neb81_ka102 (ninS neb81_wa102 nin0)))
    have z178_V_b92 := z175_V_b92.keep Kq178 (ninS neb92_b101 (ninS neb92_ka102 (ninS neb92_wa102 nin0)))
    have z178_E_b101 := z175_E_b101.keep Kq178
    have Z178 : n0 ≤ T178.heap.size := Nat.le_trans Z175 Kq178.1
    have Kk178 : Keep h0 T178.heap [] := Kk175.trans Kq178 (allS (Or.inr gkb101) (allS (Or.inr gkka102) (allS (Or.inr gkwa102) all0)))
    have Fz178 : Fld Z T178.heap b101 "quillvax/store/LongMap" "size" "I" (.int (2 : Int32)) := Fq178_size
    refine own_st (fun _ k => XS.iload X178.here hx rfl (hb hby at_182) rfl k) ?_
    refine own_st (fun _ k => XS.iconst X178.here hx rfl (hb hby at_184) k) ?_
    show own_Go _ _ _ _ (T178.setTop (mkF m 185 #[.val (.int u0), .val (.long u1), .second, .val (.long u2), .second, .val (.long (own_inv (-7046029254386353131 : Int64))), .second, .val (.int (3 : Int32)), .val (.int ((((u0.toUInt32 >>> ((14 : Int32) &&& 31).toUInt32).toInt32) &&& (7 : Int32)) - ((((u0.toUInt32 >>> ((14 : Int32) &&& 31).toUInt32).toInt32) &&& (7 : Int32)) / (5 : Int32)) * (5 : Int32))), .val (.ref b81), .val (.ref b92), .val (.ref b101), .unset, .unset, .unset, .unset, .unset] [(.int (2 : Int32)), (.int (3 : Int32))]))
    refine own_st (fun _ k => XS.icmpNo X178.here hx rfl (hb hby at_185) rfl (tlt (by decide : ((2 : Int32) < (3 : Int32)))).2.2.2 k) ?_
    refine own_st (fun _ k => XS.aload X178.here hx rfl (hb hby at_188) rfl rfl k) ?_
    refine own_st (fun _ k => XS.aload X178.here hx rfl (hb hby at_190) rfl rfl k) ?_
    refine own_st (fun _ k => XS.iconst X178.here hx rfl (hb hby at_192) k) ?_
    show own_Go _ _ _ _ (T178.setTop (mkF m 193 #[.val (.int u0), .val (.long u1), .second, .val (.long u2), .second, .val (.long (own_inv (-7046029254386353131 : Int64))), .second, .val (.int (3 : Int32)), .val (.int ((((u0.toUInt32 >>> ((14 : Int32) &&& 31).toUInt32).toInt32) &&& (7 : Int32)) - ((((u0.toUInt32 >>> ((14 : Int32) &&& 31).toUInt32).toInt32) &&& (7 : Int32)) / (5 : Int32)) * (5 : Int32))), .val (.ref b81), .val (.ref b92), .val (.ref b101), .unset, .unset, .unset, .unset, .unset] [(.int (2 : Int32)), (.ref b81), (.ref b101)]))
    obtain ⟨cl179, Ar179, -, Sz179, Nn179, Hs179, -⟩ := id z178_V_b81
    have hin179 : ¬ ((2 : Int32) < 0 ∨ cl179.slots.size ≤ ((2 : Int32)).toNatClampNeg) := inb_of Sz179 ⟨(by decide : ¬ ((2 : Int32) < (0 : Int32))), (by decide : (2 : Int32) < (5 : Int32))⟩
    have hat179 : cl179.slots[((2 : Int32)).toNatClampNeg]? = some (.long (own_kf u0 u1 2)) := Hs179.at hin179 rfl
    refine own_st (X178.laload hx (j := (2 : Int32)) (v := (.long (own_kf u0 u1 2))) Ar179.1 (State.isArrayOf_alike hZ.alike Ar179.2.1) Ar179.2.2 hin179 hat179 (g := (mkF m 193 #[.val (.int u0), .val (.long u1), .second, .val (.long u2), .second, .val (.long (own_inv (-7046029254386353131 : Int64))), .second, .val (.int (3 : Int32)), .val (.int ((((u0.toUInt32 >>> ((14 : Int32) &&& 31).toUInt32).toInt32) &&& (7 : Int32)) - ((((u0.toUInt32 >>> ((14 : Int32) &&& 31).toUInt32).toInt32) &&& (7 : Int32)) / (5 : Int32)) * (5 : Int32))), .val (.ref b81), .val (.ref b92), .val (.ref b101), .unset, .unset, .unset, .unset, .unset] [(.int (2 : Int32)), (.ref b81), (.ref b101)])) rfl rfl (hb hby at_193)) ?_
    refine own_st (fun _ k => XS.aload X178.here hx rfl (hb hby at_194) rfl rfl k) ?_
    refine own_st (fun _ k => XS.iconst X178.here hx rfl (hb hby at_196) k) ?_
    show own_Go _ _ _ _ (T178.setTop (mkF m 197 #[.val (.int u0), .val (.long u1), .second, .val (.long u2), .second, .val (.long (own_inv (-7046029254386353131 : Int64))), .second, .val (.int (3 : Int32)), .val (.int ((((u0.toUInt32 >>> ((14 : Int32) &&& 31).toUInt32).toInt32) &&& (7 : Int32)) - ((((u0.toUInt32 >>> ((14 : Int32) &&& 31).toUInt32).toInt32) &&& (7 : Int32)) / (5 : Int32)) * (5 : Int32))), .val (.ref b81), .val (.ref b92), .val (.ref b101), .unset, .unset, .unset, .unset, .unset] [(.int (2 : Int32)), (.ref b92), (.long (own_kf u0 u1 2)), (.ref b101)]))
    obtain ⟨cl180, Ar180, -, Sz180, Nn180, Hs180, -⟩ := id z178_V_b92
    have hin180 : ¬ ((2 : Int32) < 0 ∨ cl180.slots.size ≤ ((2 : Int32)).toNatClampNeg) := inb_of Sz180 ⟨(by decide : ¬ ((2 : Int32) < (0 : Int32))), (by decide : (2 : Int32) < (4 : Int32))⟩
    have hat180 : cl180.slots[((2 : Int32)).toNatClampNeg]? = some (.long (own_vf u2 2)) := Hs180.at hin180 rfl
    refine own_st (X178.laload hx (j := (2 : Int32)) (v := (.long (own_vf u2 2))) Ar180.1 (State.isArrayOf_alike hZ.alike Ar180.2.1) Ar180.2.2 hin180 hat180 (g := (mkF m 197 #[.val (.int u0), .val (.long u1), .second, .val (.long u2), .second, .val (.long (own_inv (-7046029254386353131 : Int64))), .second, .val (.int (3 : Int32)), .val (.int ((((u0.toUInt32 >>> ((14 : Int32) &&& 31).toUInt32).toInt32) &&& (7 : Int32)) - ((((u0.toUInt32 >>> ((14 : Int32) &&& 31).toUInt32).toInt32) &&& (7 : Int32)) / (5 : Int32)) * (5 : Int32))), .val (.ref b81), .val (.ref b92), .val (.ref b101), .unset, .unset, .unset, .unset, .unset] [(.int (2 : Int32)), (.ref b92), (.long (own_kf u0 u1 2)), (.ref b101)])) rfl rfl (hb hby at_197)) ?_
    show own_Go _ _ _ _ (T178.setTop (mkF m 198 #[.val (.int u0), .val (.long u1), .second, .val (.long u2), .second, .val (.long (own_inv (-7046029254386353131 : Int64))), .second, .val (.int (3 : Int32)), .val (.int ((((u0.toUInt32 >>> ((14 : Int32) &&& 31).toUInt32).toInt32) &&& (7 : Int32)) - ((((u0.toUInt32 >>> ((14 : Int32) &&& 31).toUInt32).toInt32) &&& (7 : Int32)) / (5 : Int32)) * (5 : Int32))), .val (.ref b81), .val (.ref b92), .val (.ref b101), .unset, .unset, .unset, .unset, .unset] [(.long (own_vf u2 2)), (.long (own_kf u0 u1 2)), (.ref b101)]))
    obtain ⟨cq181, kq181, q181a, q181b, q181c⟩ := isOf hZ rfl z178_E_b101
    obtain ⟨_, _, ⟨T181, L181, k181, n181⟩, -, X181, ⟨Lc181, hQ181, l181, y181, z181⟩, st181⟩ := X178.virtualBack hx (y := (⟨"quillvax/store/LongMap", "put", "(JJ)V"⟩ : MethodName)) (z := (⟨"quillvax/store/LongMap", "put", "(JJ)V"⟩ : MethodName)) hown (mvT hZ (hw _ (List.mem_of_getElem? (i := 53) rfl))) (mvT hZ (hw _ (List.mem_of_getElem? (i := 54) rfl))) (notFace_of_selects (args := #[]) (mvT hZ (hw _ (List.mem_of_getElem? (i := 56) rfl)))) (mvT hZ (hw _ (List.mem_of_getElem? (i := 56) rfl))) (mvT hZ (hw _ (List.mem_of_getElem? (i := 55) rfl))) (by decide) (backOf (W := 0) (rm11 l Z a0 hw [] b101 ka102 wa102 kk102 kw102 (own_upd (own_upd own_z r0 (own_kf u0 u1 0)) r1 (own_kf u0 u1 1)) (own_upd (own_upd own_z r0 (own_vf u2 0)) r1 (own_vf u2 1)) (own_kf u0 u1 2) (own_vf u2 2) r2 (2 : Int32) T178.heap n0 Z178 z178_E_b101 Fq178_keys Fq178_values Fq178_slotBits Fz178 Vk178 Vw178 gnb101 gnka102 gnwa102 neb101_ka102 neb101_wa102 nk102 f2 (fun q => own_vnz u2 2 (by decide) ((lw_eq _ _).mp q)) z2 (by decide)) hZ (hw _ (List.mem_of_getElem? (i := 57) rfl)) (hw _ (List.mem_of_getElem? (i := 16) rfl)) (by decide) (by decide)) q181a q181c (g := (mkF m 198 #[.val (.int u0), .val (.long u1), .second, .val (.long u2), .second, .val (.long (own_inv (-7046029254386353131 : Int64))), .second, .val (.int (3 : Int32)), .val (.int ((((u0.toUInt32 >>> ((14 : Int32) &&& 31).toUInt32).toInt32) &&& (7 : Int32)) - ((((u0.toUInt32 >>> ((14 : Int32) &&& 31).toUInt32).toInt32) &&& (7 : Int32)) / (5 : Int32)) * (5 : Int32))), .val (.ref b81), .val (.ref b92), .val (.ref b101), .unset, .unset, .unset, .unset, .unset] [(.long (own_vf u2 2)), (.long (own_kf u0 u1 2)), (.ref b101)])) rfl (by rw [hml]; rfl) (Steps.refl _) (argsL := [(.long (own_kf u0 u1 2)), (.long (own_vf u2 2))]) (rest := []) (lenOf own_pd8 rfl) rfl (by show 2 * 0 + _ ≤ _; exact Nat.le_of_eq rfl) (hb hby at_198) (fun _ _ => ⟨rfl, rfl, (by decide : 5 + 0 ≤ _), (by decide : 45 + 0 ≤ _)⟩)
    dsimp only [Pt.U, Pt.locs, Pt.cells, Pt.slots] at X181 l181 y181 z181 st181 hQ181
    rw [l181, y181, z181] at X181
    obtain ⟨rfl, Nq181, Kq181, Eq181, Fq181_keys, Fq181_values, Fq181_slotBits, Fq181_size, Vk181, Vw181⟩ := hQ181
    have N181 := Fr.app N178 Nq181
    refine own_tr st181 ?_
    have z181_V_b81 := z178_V_b81.keep Kq181 (ninS neb81_b101 (ninS neb81_ka102 (ninS neb81_wa102 nin0)))
    have z181_V_b92 := z178_V_b92.keep Kq181 (ninS neb92_b101 (ninS neb92_ka102 (ninS neb92_wa102 nin0)))
    have z181_E_b101 := z178_E_b101.keep Kq181
    have Z181 : n0 ≤ T181.heap.size := Nat.le_trans Z178 Kq181.1
    have Kk181 : Keep h0 T181.heap [] := Kk178.trans Kq181 (allS (Or.inr gkb101) (allS (Or.inr gkka102) (allS (Or.inr gkwa102) all0)))
    have Fz181 : Fld Z T181.heap b101 "quillvax/store/LongMap" "size" "I" (.int (3 : Int32)) := Fq181_size
    have VkN : Arv Z T181.heap ka102 kk102 .long (16 : Int32) (own_vs KN) (.long (0 : Int64)) := eKN ▸ Vk181
    have VwN : Arv Z T181.heap wa102 kw102 .long (16 : Int32) (own_vs WN) (.long (0 : Int64)) := eWN ▸ Vw181
    refine own_st (fun _ k => XS.iload X181.here hx rfl (hb hby at_201) rfl k) ?_
    refine own_st (fun _ k => XS.iconst X181.here hx rfl (hb hby at_203) k) ?_
    show own_Go _ _ _ _ (T181.setTop (mkF m 204 #[.val (.int u0), .val (.long u1), .second, .val (.long u2), .second, .val (.long (own_inv (-7046029254386353131 : Int64))), .second, .val (.int (3 : Int32)), .val (.int ((((u0.toUInt32 >>> ((14 : Int32) &&& 31).toUInt32).toInt32) &&& (7 : Int32)) - ((((u0.toUInt32 >>> ((14 : Int32) &&& 31).toUInt32).toInt32) &&& (7 : Int32)) / (5 : Int32)) * (5 : Int32))), .val (.ref b81), .val (.ref b92), .val (.ref b101), .unset, .unset, .unset, .unset, .unset] [(.int (3 : Int32)), (.int (3 : Int32))]))
    refine own_st (fun _ k => XS.icmpYes X181.here hx rfl (pc0 := 204) (pc' := 220) rfl (hb hby at_204) rfl (flt (by decide : ¬ ((3 : Int32) < (3 : Int32)))).2.2.2 (by decide) (by decide) k) ?_
    show own_Go _ _ _ _ (T181.setTop (mkF m 220 #[.val (.int u0), .val (.long u1), .second, .val (.long u2), .second, .val (.long (own_inv (-7046029254386353131 : Int64))), .second, .val (.int (3 : Int32)), .val (.int ((((u0.toUInt32 >>> ((14 : Int32) &&& 31).toUInt32).toInt32) &&& (7 : Int32)) - ((((u0.toUInt32 >>> ((14 : Int32) &&& 31).toUInt32).toInt32) &&& (7 : Int32)) / (5 : Int32)) * (5 : Int32))), .val (.ref b81), .val (.ref b92), .val (.ref b101), .unset, .unset, .unset, .unset, .unset] []))
    rcases own_n5 ((u0.toUInt32 >>> ((14 : Int32) &&& 31).toUInt32).toInt32) with hs182 | hs182 | hs182 | hs182 | hs182
    · skip
      rw [hs182]
      have HT := own_H4 u0 u1 u2
      obtain ⟨ts, tq, es, er, eg0, eg1, eg2, eg3⟩ := own_chkE (own_c30 _ (own_offN u0 0).1 _ (own_offN u0 1).1 _ (own_offN u0 2).1 _ (own_offN u0 3).1)
      have ess : ts = tt := Option.some.inj (es.symm.trans etN)
      rw [ess] at er
      obtain ⟨rr, KR, WR, rf, rz, rm, RQ⟩ := own_stepR HT RR3 (n := 3) (a := 0) (by decide) (by decide) er
      obtain ⟨g0, gf0, ga0_, gb0_⟩ := own_stepG HT RQ (q := 0) (by decide) eg0
      obtain ⟨g1, gf1, ga1_, gb1_⟩ := own_stepG HT RQ (q := 1) (by decide) eg1
      obtain ⟨g2, gf2, ga2_, gb2_⟩ := own_stepG HT RQ (q := 2) (by decide) eg2
      obtain ⟨g3, gf3, ga3_, gb3_⟩ := own_stepG HT RQ (q := 3) (by decide) eg3
      show own_Go _ _ _ _ (T181.setTop (mkF m 220 #[.val (.int u0), .val (.long u1), .second, .val (.long u2), .second, .val (.long (own_inv (-7046029254386353131 : Int64))), .second, .val (.int (3 : Int32)), .val (.int (0 : Int32)), .val (.ref b81), .val (.ref b92), .val (.ref b101), .unset, .unset, .unset, .unset, .unset] []))
      refine own_st (fun _ k => XS.iload X181.here hx rfl (hb hby at_220) rfl k) ?_
      refine own_st (fun _ k => XS.iload X181.here hx rfl (hb hby at_222) rfl k) ?_
      show own_Go _ _ _ _ (T181.setTop (mkF m 224 #[.val (.int u0), .val (.long u1), .second, .val (.long u2), .second, .val (.long (own_inv (-7046029254386353131 : Int64))), .second, .val (.int (3 : Int32)), .val (.int (0 : Int32)), .val (.ref b81), .val (.ref b92), .val (.ref b101), .unset, .unset, .unset, .unset, .unset] [(.int (3 : Int32)), (.int (0 : Int32))]))
      refine own_st (fun _ k => XS.icmpNo X181.here hx rfl (hb hby at_224) rfl (tlt (by decide : ((0 : Int32) < (3 : Int32)))).2.1 k) ?_
      refine own_st (fun _ k => XS.aload X181.here hx rfl (hb hby at_227) rfl rfl k) ?_
      refine own_st (fun _ k => XS.iload X181.here hx rfl (hb hby at_229) rfl k) ?_
      show own_Go _ _ _ _ (T181.setTop (mkF m 231 #[.val (.int u0), .val (.long u1), .second, .val (.long u2), .second, .val (.long (own_inv (-7046029254386353131 : Int64))), .second, .val (.int (3 : Int32)), .val (.int (0 : Int32)), .val (.ref b81), .val (.ref b92), .val (.ref b101), .unset, .unset, .unset, .unset, .unset] [(.int (0 : Int32)), (.ref b92)]))
      obtain ⟨cl183, Ar183, -, Sz183, Nn183, Hs183, -⟩ := id z181_V_b92
      have hin183 : ¬ ((0 : Int32) < 0 ∨ cl183.slots.size ≤ ((0 : Int32)).toNatClampNeg) := inb_of Sz183 ⟨(by decide : ¬ ((0 : Int32) < (0 : Int32))), (by decide : (0 : Int32) < (4 : Int32))⟩
      have hat183 : cl183.slots[((0 : Int32)).toNatClampNeg]? = some (.long (own_vf u2 0)) := Hs183.at hin183 rfl
      refine own_st (X181.laload hx (j := (0 : Int32)) (v := (.long (own_vf u2 0))) Ar183.1 (State.isArrayOf_alike hZ.alike Ar183.2.1) Ar183.2.2 hin183 hat183 (g := (mkF m 231 #[.val (.int u0), .val (.long u1), .second, .val (.long u2), .second, .val (.long (own_inv (-7046029254386353131 : Int64))), .second, .val (.int (3 : Int32)), .val (.int (0 : Int32)), .val (.ref b81), .val (.ref b92), .val (.ref b101), .unset, .unset, .unset, .unset, .unset] [(.int (0 : Int32)), (.ref b92)])) rfl rfl (hb hby at_231)) ?_
      refine own_st (fun _ k => XS.goto X181.here hx rfl (pc0 := 232) (pc' := 236) rfl (hb hby at_232) (by decide) (by decide) k) ?_
      refine own_st (fun _ k => XS.lstore X181.here hx rfl (hb hby at_236) rfl (l' := #[.val (.int u0), .val (.long u1), .second, .val (.long u2), .second, .val (.long (own_inv (-7046029254386353131 : Int64))), .second, .val (.int (3 : Int32)), .val (.int (0 : Int32)), .val (.ref b81), .val (.ref b92), .val (.ref b101), .val (.long (own_vf u2 0)), .second, .unset, .unset, .unset]) rfl k) ?_
      refine own_st (fun _ k => XS.aload X181.here hx rfl (hb hby at_238) rfl rfl k) ?_
      refine own_st (fun _ k => XS.aload X181.here hx rfl (hb hby at_240) rfl rfl k) ?_
      refine own_st (fun _ k => XS.iload X181.here hx rfl (hb hby at_242) rfl k) ?_
      show own_Go _ _ _ _ (T181.setTop (mkF m 244 #[.val (.int u0), .val (.long u1), .second, .val (.long u2), .second, .val (.long (own_inv (-7046029254386353131 : Int64))), .second, .val (.int (3 : Int32)), .val (.int (0 : Int32)), .val (.ref b81), .val (.ref b92), .val (.ref b101), .val (.long (own_vf u2 0)), .second, .unset, .unset, .unset] [(.int (0 : Int32)), (.ref b81), (.ref b101)]))
      obtain ⟨cl184, Ar184, -, Sz184, Nn184, Hs184, -⟩ := id z181_V_b81
      have hin184 : ¬ ((0 : Int32) < 0 ∨ cl184.slots.size ≤ ((0 : Int32)).toNatClampNeg) := inb_of Sz184 ⟨(by decide : ¬ ((0 : Int32) < (0 : Int32))), (by decide : (0 : Int32) < (5 : Int32))⟩
      have hat184 : cl184.slots[((0 : Int32)).toNatClampNeg]? = some (.long (own_kf u0 u1 0)) := Hs184.at hin184 rfl
      refine own_st (X181.laload hx (j := (0 : Int32)) (v := (.long (own_kf u0 u1 0))) Ar184.1 (State.isArrayOf_alike hZ.alike Ar184.2.1) Ar184.2.2 hin184 hat184 (g := (mkF m 244 #[.val (.int u0), .val (.long u1), .second, .val (.long u2), .second, .val (.long (own_inv (-7046029254386353131 : Int64))), .second, .val (.int (3 : Int32)), .val (.int (0 : Int32)), .val (.ref b81), .val (.ref b92), .val (.ref b101), .val (.long (own_vf u2 0)), .second, .unset, .unset, .unset] [(.int (0 : Int32)), (.ref b81), (.ref b101)])) rfl rfl (hb hby at_244)) ?_
      show own_Go _ _ _ _ (T181.setTop (mkF m 245 #[.val (.int u0), .val (.long u1), .second, .val (.long u2), .second, .val (.long (own_inv (-7046029254386353131 : Int64))), .second, .val (.int (3 : Int32)), .val (.int (0 : Int32)), .val (.ref b81), .val (.ref b92), .val (.ref b101), .val (.long (own_vf u2 0)), .second, .unset, .unset, .unset] [(.long (own_kf u0 u1 0)), (.ref b101)]))
      obtain ⟨cq185, kq185, q185a, q185b, q185c⟩ := isOf hZ rfl z181_E_b101
      obtain ⟨_, _, ⟨T185, L185, k185, n185⟩, -, X185, ⟨Lc185, hQ185, l185, y185, z185⟩, st185⟩ := X181.virtualBack hx (y := (⟨"quillvax/store/LongMap", "remove", "(J)J"⟩ : MethodName)) (z := (⟨"quillvax/store/LongMap", "remove", "(J)J"⟩ : MethodName)) hown (mvT hZ (hw _ (List.mem_of_getElem? (i := 34) rfl))) (mvT hZ (hw _ (List.mem_of_getElem? (i := 35) rfl))) (notFace_of_selects (args := #[]) (mvT hZ (hw _ (List.mem_of_getElem? (i := 37) rfl)))) (mvT hZ (hw _ (List.mem_of_getElem? (i := 37) rfl))) (mvT hZ (hw _ (List.mem_of_getElem? (i := 36) rfl))) (by decide) (backOf (W := 0) (rm7 l Z a0 hw [] b101 ka102 wa102 kk102 kw102 KN WN (own_kf u0 u1 0) rr KR WR (3 : Int32) T181.heap n0 Z181 z181_E_b101 Fq181_keys Fq181_values Fq181_slotBits Fz181 VkN VwN gnb101 gnka102 gnwa102 neb101_ka102 neb101_wa102 nk102 rf (by rw [rz]; exact own_vnz u2 0 (by decide)) rm) hZ (hw _ (List.mem_of_getElem? (i := 38) rfl)) (hw _ (List.mem_of_getElem? (i := 16) rfl)) (by decide) (by decide)) q185a q185c (g := (mkF m 245 #[.val (.int u0), .val (.long u1), .second, .val (.long u2), .second, .val (.long (own_inv (-7046029254386353131 : Int64))), .second, .val (.int (3 : Int32)), .val (.int (0 : Int32)), .val (.ref b81), .val (.ref b92), .val (.ref b101), .val (.long (own_vf u2 0)), .second, .unset, .unset, .unset] [(.long (own_kf u0 u1 0)), (.ref b101)])) rfl (by rw [hml]; rfl) (Steps.refl _) (argsL := [(.long (own_kf u0 u1 0))]) (rest := []) (lenOf own_pd0 rfl) rfl (by show 2 * 0 + _ ≤ _; exact Nat.le_of_eq rfl) (hb hby at_245) (fun _ _ => ⟨rfl, rfl, (by decide : 5 + 0 ≤ _), (by decide : 45 + 0 ≤ _)⟩)
      dsimp only [Pt.U, Pt.locs, Pt.cells, Pt.slots] at X185 l185 y185 z185 st185 hQ185
      rw [l185, y185, z185] at X185
      obtain ⟨rfl, Nq185, Kq185, Eq185, Fq185_keys, Fq185_values, Fq185_slotBits, Vk185, Vw185⟩ := hQ185
      have N185 := Fr.app N181 Nq185
      refine own_tr st185 ?_
      have z185_V_b81 := z181_V_b81.keep Kq185 (ninS neb81_b101 (ninS neb81_ka102 (ninS neb81_wa102 nin0)))
      have z185_V_b92 := z181_V_b92.keep Kq185 (ninS neb92_b101 (ninS neb92_ka102 (ninS neb92_wa102 nin0)))
      have z185_E_b101 := z181_E_b101.keep Kq185
      have Z185 : n0 ≤ T185.heap.size := Nat.le_trans Z181 Kq185.1
      have Kk185 : Keep h0 T185.heap [] := Kk181.trans Kq185 (allS (Or.inr gkb101) (allS (Or.inr gkka102) (allS (Or.inr gkwa102) all0)))
      refine own_st (fun _ k => XS.lstore X185.here hx rfl (hb hby at_248) rfl (l' := #[.val (.int u0), .val (.long u1), .second, .val (.long u2), .second, .val (.long (own_inv (-7046029254386353131 : Int64))), .second, .val (.int (3 : Int32)), .val (.int (0 : Int32)), .val (.ref b81), .val (.ref b92), .val (.ref b101), .val (.long (own_vf u2 0)), .second, .val (.long (WN rr)), .second, .unset]) rfl k) ?_
      refine own_st (fun _ k => XS.lload X185.here hx rfl (hb hby at_250) rfl k) ?_
      refine own_st (fun _ k => XS.lload X185.here hx rfl (hb hby at_252) rfl k) ?_
      show own_Go _ _ _ _ (T185.setTop (mkF m 254 #[.val (.int u0), .val (.long u1), .second, .val (.long u2), .second, .val (.long (own_inv (-7046029254386353131 : Int64))), .second, .val (.int (3 : Int32)), .val (.int (0 : Int32)), .val (.ref b81), .val (.ref b92), .val (.ref b101), .val (.long (own_vf u2 0)), .second, .val (.long (WN rr)), .second, .unset] [(.long (own_vf u2 0)), (.long (WN rr))]))
      refine own_st (fun _ k => XS.lcmp X185.here hx rfl (hb hby at_254) rfl k) ?_
      show own_Go _ _ _ _ (T185.setTop (mkF m 255 #[.val (.int u0), .val (.long u1), .second, .val (.long u2), .second, .val (.long (own_inv (-7046029254386353131 : Int64))), .second, .val (.int (3 : Int32)), .val (.int (0 : Int32)), .val (.ref b81), .val (.ref b92), .val (.ref b101), .val (.long (own_vf u2 0)), .second, .val (.long (WN rr)), .second, .unset] [(.int (lcmpW (WN rr) (own_vf u2 0)))]))
      refine own_st (fun _ k => XS.ifNo X185.here hx rfl (hb hby at_255) rfl ((if0 _ _).trans (teq ((lw_eq _ _).mpr rz)).2) k) ?_
      refine own_st (fun _ k => XS.iconst X185.here hx rfl (hb hby at_258) k) ?_
      refine own_st (fun _ k => XS.goto X185.here hx rfl (pc0 := 259) (pc' := 263) rfl (hb hby at_259) (by decide) (by decide) k) ?_
      refine own_st (fun _ k => XS.istore X185.here hx rfl (hb hby at_263) rfl (l' := #[.val (.int u0), .val (.long u1), .second, .val (.long u2), .second, .val (.long (own_inv (-7046029254386353131 : Int64))), .second, .val (.int (3 : Int32)), .val (.int (0 : Int32)), .val (.ref b81), .val (.ref b92), .val (.ref b101), .val (.long (own_vf u2 0)), .second, .val (.long (WN rr)), .second, .val (.int (1 : Int32))]) rfl k) ?_
      show own_Go _ _ _ _ (T185.setTop (mkF m 265 #[.val (.int u0), .val (.long u1), .second, .val (.long u2), .second, .val (.long (own_inv (-7046029254386353131 : Int64))), .second, .val (.int (3 : Int32)), .val (.int (0 : Int32)), .val (.ref b81), .val (.ref b92), .val (.ref b101), .val (.long (own_vf u2 0)), .second, .val (.long (WN rr)), .second, .val (.int (1 : Int32))] []))
      refine TAIL _ _ _ _ _ _ g0 g1 g2 g3 _ _ _ _ X185 rfl Vk185 Vw185 z185_E_b101 Fq185_keys Fq185_values Fq185_slotBits z185_V_b81 z185_V_b92 N185 Z185 gf0 (by rw [if_pos (by decide), if_pos rfl]; exact ga0_ (by decide)) gf1 (by rw [if_pos (by decide), if_neg (by decide)]; exact gb1_ (by decide)) gf2 (by rw [if_pos (by decide), if_neg (by decide)]; exact gb2_ (by decide)) gf3 (by rw [if_neg (by decide)]; exact ga3_ (by decide)) ?_
      intro TM lcM XM NM
      show own_Go _ _ _ _ (TM.setTop (mkF m 446 #[.val (.int u0), .val (.long u1), .second, .val (.long u2), .second, .val (.long (own_inv (-7046029254386353131 : Int64))), .second, .val (.int (3 : Int32)), .val (.int (0 : Int32)), .val (.ref b81), .val (.ref b92), .val (.ref b101), .val (.long (own_vf u2 0)), .second, .val (.long (WN rr)), .second, .val (.int (1 : Int32))] [(.int (1 : Int32))]))
      obtain ⟨fs, hr, hrun, hended, hW, hsame⟩ := XM.leave (v := some (.int (1 : Int32))) (fun h => by rw [Bd.returns] at h; cases h)
      refine own_out (retN XM hx (t := .boolean) Bd.returns (by simp) (hb hby at_446) hr) ⟨hrun, hended, _, _, rfl, ?_, ⟨_, rfl⟩, hW, hsame.mono (by decide) (by decide)⟩
      show Q0 Z u0 u1 u2 h0 n0 _ TM.heap _
      exact ⟨rfl, NM⟩
    · skip
      rw [hs182]
      have HT := own_H4 u0 u1 u2
      obtain ⟨ts, tq, es, er, eg0, eg1, eg2, eg3⟩ := own_chkE (own_c31 _ (own_offN u0 0).1 _ (own_offN u0 1).1 _ (own_offN u0 2).1 _ (own_offN u0 3).1)
      have ess : ts = tt := Option.some.inj (es.symm.trans etN)
      rw [ess] at er
      obtain ⟨rr, KR, WR, rf, rz, rm, RQ⟩ := own_stepR HT RR3 (n := 3) (a := 1) (by decide) (by decide) er
      obtain ⟨g0, gf0, ga0_, gb0_⟩ := own_stepG HT RQ (q := 0) (by decide) eg0
      obtain ⟨g1, gf1, ga1_, gb1_⟩ := own_stepG HT RQ (q := 1) (by decide) eg1
      obtain ⟨g2, gf2, ga2_, gb2_⟩ := own_stepG HT RQ (q := 2) (by decide) eg2
      obtain ⟨g3, gf3, ga3_, gb3_⟩ := own_stepG HT RQ (q := 3) (by decide) eg3
      show own_Go _ _ _ _ (T181.setTop (mkF m 220 #[.val (.int u0), .val (.long u1), .second, .val (.long u2), .second, .val (.long (own_inv (-7046029254386353131 : Int64))), .second, .val (.int (3 : Int32)), .val (.int (1 : Int32)), .val (.ref b81), .val (.ref b92), .val (.ref b101), .unset, .unset, .unset, .unset, .unset] []))
      refine own_st (fun _ k => XS.iload X181.here hx rfl (hb hby at_220) rfl k) ?_
      refine own_st (fun _ k => XS.iload X181.here hx rfl (hb hby at_222) rfl k) ?_
      show own_Go _ _ _ _ (T181.setTop (mkF m 224 #[.val (.int u0), .val (.long u1), .second, .val (.long u2), .second, .val (.long (own_inv (-7046029254386353131 : Int64))), .second, .val (.int (3 : Int32)), .val (.int (1 : Int32)), .val (.ref b81), .val (.ref b92), .val (.ref b101), .unset, .unset, .unset, .unset, .unset] [(.int (3 : Int32)), (.int (1 : Int32))]))
      refine own_st (fun _ k => XS.icmpNo X181.here hx rfl (hb hby at_224) rfl (tlt (by decide : ((1 : Int32) < (3 : Int32)))).2.1 k) ?_
      refine own_st (fun _ k => XS.aload X181.here hx rfl (hb hby at_227) rfl rfl k) ?_
      refine own_st (fun _ k => XS.iload X181.here hx rfl (hb hby at_229) rfl k) ?_
      show own_Go _ _ _ _ (T181.setTop (mkF m 231 #[.val (.int u0), .val (.long u1), .second, .val (.long u2), .second, .val (.long (own_inv (-7046029254386353131 : Int64))), .second, .val (.int (3 : Int32)), .val (.int (1 : Int32)), .val (.ref b81), .val (.ref b92), .val (.ref b101), .unset, .unset, .unset, .unset, .unset] [(.int (1 : Int32)), (.ref b92)]))
      obtain ⟨cl186, Ar186, -, Sz186, Nn186, Hs186, -⟩ := id z181_V_b92
      have hin186 : ¬ ((1 : Int32) < 0 ∨ cl186.slots.size ≤ ((1 : Int32)).toNatClampNeg) := inb_of Sz186 ⟨(by decide : ¬ ((1 : Int32) < (0 : Int32))), (by decide : (1 : Int32) < (4 : Int32))⟩
      have hat186 : cl186.slots[((1 : Int32)).toNatClampNeg]? = some (.long (own_vf u2 1)) := Hs186.at hin186 rfl
      refine own_st (X181.laload hx (j := (1 : Int32)) (v := (.long (own_vf u2 1))) Ar186.1 (State.isArrayOf_alike hZ.alike Ar186.2.1) Ar186.2.2 hin186 hat186 (g := (mkF m 231 #[.val (.int u0), .val (.long u1), .second, .val (.long u2), .second, .val (.long (own_inv (-7046029254386353131 : Int64))), .second, .val (.int (3 : Int32)), .val (.int (1 : Int32)), .val (.ref b81), .val (.ref b92), .val (.ref b101), .unset, .unset, .unset, .unset, .unset] [(.int (1 : Int32)), (.ref b92)])) rfl rfl (hb hby at_231)) ?_
      refine own_st (fun _ k => XS.goto X181.here hx rfl (pc0 := 232) (pc' := 236) rfl (hb hby at_232) (by decide) (by decide) k) ?_
      refine own_st (fun _ k => XS.lstore X181.here hx rfl (hb hby at_236) rfl (l' := #[.val (.int u0), .val (.long u1), .second, .val (.long u2), .second, .val (.long (own_inv (-7046029254386353131 : Int64))), .second, .val (.int (3 : Int32)), .val (.int (1 : Int32)), .val (.ref b81), .val (.ref b92), .val (.ref b101), .val (.long (own_vf u2 1)), .second, .unset, .unset, .unset]) rfl k) ?_
      refine own_st (fun _ k => XS.aload X181.here hx rfl (hb hby at_238) rfl rfl k) ?_
      refine own_st (fun _ k => XS.aload X181.here hx rfl (hb hby at_240) rfl rfl k) ?_
      refine own_st (fun _ k => XS.iload X181.here hx rfl (hb hby at_242) rfl k) ?_
      show own_Go _ _ _ _ (T181.setTop (mkF m 244 #[.val (.int u0), .val (.long u1), .second, .val (.long u2), .second, .val (.long (own_inv (-7046029254386353131 : Int64))), .second, .val (.int (3 : Int32)), .val (.int (1 : Int32)), .val (.ref b81), .val (.ref b92), .val (.ref b101), .val (.long (own_vf u2 1)), .second, .unset, .unset, .unset] [(.int (1 : Int32)), (.ref b81), (.ref b101)]))
      obtain ⟨cl187, Ar187, -, Sz187, Nn187, Hs187, -⟩ := id z181_V_b81
      have hin187 : ¬ ((1 : Int32) < 0 ∨ cl187.slots.size ≤ ((1 : Int32)).toNatClampNeg) := inb_of Sz187 ⟨(by decide : ¬ ((1 : Int32) < (0 : Int32))), (by decide : (1 : Int32) < (5 : Int32))⟩
      have hat187 : cl187.slots[((1 : Int32)).toNatClampNeg]? = some (.long (own_kf u0 u1 1)) := Hs187.at hin187 rfl
      refine own_st (X181.laload hx (j := (1 : Int32)) (v := (.long (own_kf u0 u1 1))) Ar187.1 (State.isArrayOf_alike hZ.alike Ar187.2.1) Ar187.2.2 hin187 hat187 (g := (mkF m 244 #[.val (.int u0), .val (.long u1), .second, .val (.long u2), .second, .val (.long (own_inv (-7046029254386353131 : Int64))), .second, .val (.int (3 : Int32)), .val (.int (1 : Int32)), .val (.ref b81), .val (.ref b92), .val (.ref b101), .val (.long (own_vf u2 1)), .second, .unset, .unset, .unset] [(.int (1 : Int32)), (.ref b81), (.ref b101)])) rfl rfl (hb hby at_244)) ?_
      show own_Go _ _ _ _ (T181.setTop (mkF m 245 #[.val (.int u0), .val (.long u1), .second, .val (.long u2), .second, .val (.long (own_inv (-7046029254386353131 : Int64))), .second, .val (.int (3 : Int32)), .val (.int (1 : Int32)), .val (.ref b81), .val (.ref b92), .val (.ref b101), .val (.long (own_vf u2 1)), .second, .unset, .unset, .unset] [(.long (own_kf u0 u1 1)), (.ref b101)]))
      obtain ⟨cq188, kq188, q188a, q188b, q188c⟩ := isOf hZ rfl z181_E_b101
      obtain ⟨_, _, ⟨T188, L188, k188, n188⟩, -, X188, ⟨Lc188, hQ188, l188, y188, z188⟩, st188⟩ := X181.virtualBack hx (y := (⟨"quillvax/store/LongMap", "remove", "(J)J"⟩ : MethodName)) (z := (⟨"quillvax/store/LongMap", "remove", "(J)J"⟩ : MethodName)) hown (mvT hZ (hw _ (List.mem_of_getElem? (i := 34) rfl))) (mvT hZ (hw _ (List.mem_of_getElem? (i := 35) rfl))) (notFace_of_selects (args := #[]) (mvT hZ (hw _ (List.mem_of_getElem? (i := 37) rfl)))) (mvT hZ (hw _ (List.mem_of_getElem? (i := 37) rfl))) (mvT hZ (hw _ (List.mem_of_getElem? (i := 36) rfl))) (by decide) (backOf (W := 0) (rm7 l Z a0 hw [] b101 ka102 wa102 kk102 kw102 KN WN (own_kf u0 u1 1) rr KR WR (3 : Int32) T181.heap n0 Z181 z181_E_b101 Fq181_keys Fq181_values Fq181_slotBits Fz181 VkN VwN gnb101 gnka102 gnwa102 neb101_ka102 neb101_wa102 nk102 rf (by rw [rz]; exact own_vnz u2 1 (by decide)) rm) hZ (hw _ (List.mem_of_getElem? (i := 38) rfl)) (hw _ (List.mem_of_getElem? (i := 16) rfl)) (by decide) (by decide)) q188a q188c (g := (mkF m 245 #[.val (.int u0), .val (.long u1), .second, .val (.long u2), .second, .val (.long (own_inv (-7046029254386353131 : Int64))), .second, .val (.int (3 : Int32)), .val (.int (1 : Int32)), .val (.ref b81), .val (.ref b92), .val (.ref b101), .val (.long (own_vf u2 1)), .second, .unset, .unset, .unset] [(.long (own_kf u0 u1 1)), (.ref b101)])) rfl (by rw [hml]; rfl) (Steps.refl _) (argsL := [(.long (own_kf u0 u1 1))]) (rest := []) (lenOf own_pd0 rfl) rfl (by show 2 * 0 + _ ≤ _; exact Nat.le_of_eq rfl) (hb hby at_245) (fun _ _ => ⟨rfl, rfl, (by decide : 5 + 0 ≤ _), (by decide : 45 + 0 ≤ _)⟩)
      dsimp only [Pt.U, Pt.locs, Pt.cells, Pt.slots] at X188 l188 y188 z188 st188 hQ188
      rw [l188, y188, z188] at X188
      obtain ⟨rfl, Nq188, Kq188, Eq188, Fq188_keys, Fq188_values, Fq188_slotBits, Vk188, Vw188⟩ := hQ188
      have N188 := Fr.app N181 Nq188
      refine own_tr st188 ?_
      have z188_V_b81 := z181_V_b81.keep Kq188 (ninS neb81_b101 (ninS neb81_ka102 (ninS neb81_wa102 nin0)))
      have z188_V_b92 := z181_V_b92.keep Kq188 (ninS neb92_b101 (ninS neb92_ka102 (ninS neb92_wa102 nin0)))
      have z188_E_b101 := z181_E_b101.keep Kq188
      have Z188 : n0 ≤ T188.heap.size := Nat.le_trans Z181 Kq188.1
      have Kk188 : Keep h0 T188.heap [] := Kk181.trans Kq188 (allS (Or.inr gkb101) (allS (Or.inr gkka102) (allS (Or.inr gkwa102) all0)))
      refine own_st (fun _ k => XS.lstore X188.here hx rfl (hb hby at_248) rfl (l' := #[.val (.int u0), .val (.long u1), .second, .val (.long u2), .second, .val (.long (own_inv (-7046029254386353131 : Int64))), .second, .val (.int (3 : Int32)), .val (.int (1 : Int32)), .val (.ref b81), .val (.ref b92), .val (.ref b101), .val (.long (own_vf u2 1)), .second, .val (.long (WN rr)), .second, .unset]) rfl k) ?_
      refine own_st (fun _ k => XS.lload X188.here hx rfl (hb hby at_250) rfl k) ?_
      refine own_st (fun _ k => XS.lload X188.here hx rfl (hb hby at_252) rfl k) ?_
      show own_Go _ _ _ _ (T188.setTop (mkF m 254 #[.val (.int u0), .val (.long u1), .second, .val (.long u2), .second, .val (.long (own_inv (-7046029254386353131 : Int64))), .second, .val (.int (3 : Int32)), .val (.int (1 : Int32)), .val (.ref b81), .val (.ref b92), .val (.ref b101), .val (.long (own_vf u2 1)), .second, .val (.long (WN rr)), .second, .unset] [(.long (own_vf u2 1)), (.long (WN rr))]))
      refine own_st (fun _ k => XS.lcmp X188.here hx rfl (hb hby at_254) rfl k) ?_
      show own_Go _ _ _ _ (T188.setTop (mkF m 255 #[.val (.int u0), .val (.long u1), .second, .val (.long u2), .second, .val (.long (own_inv (-7046029254386353131 : Int64))), .second, .val (.int (3 : Int32)), .val (.int (1 : Int32)), .val (.ref b81), .val (.ref b92), .val (.ref b101), .val (.long (own_vf u2 1)), .second, .val (.long (WN rr)), .second, .unset] [(.int (lcmpW (WN rr) (own_vf u2 1)))]))
      refine own_st (fun _ k => XS.ifNo X188.here hx rfl (hb hby at_255) rfl ((if0 _ _).trans (teq ((lw_eq _ _).mpr rz)).2) k) ?_
      refine own_st (fun _ k => XS.iconst X188.here hx rfl (hb hby at_258) k) ?_
      refine own_st (fun _ k => XS.goto X188.here hx rfl (pc0 := 259) (pc' := 263) rfl (hb hby at_259) (by decide) (by decide) k) ?_
      refine own_st (fun _ k => XS.istore X188.here hx rfl (hb hby at_263) rfl (l' := #[.val (.int u0), .val (.long u1), .second, .val (.long u2), .second, .val (.long (own_inv (-7046029254386353131 : Int64))), .second, .val (.int (3 : Int32)), .val (.int (1 : Int32)), .val (.ref b81), .val (.ref b92), .val (.ref b101), .val (.long (own_vf u2 1)), .second, .val (.long (WN rr)), .second, .val (.int (1 : Int32))]) rfl k) ?_
      show own_Go _ _ _ _ (T188.setTop (mkF m 265 #[.val (.int u0), .val (.long u1), .second, .val (.long u2), .second, .val (.long (own_inv (-7046029254386353131 : Int64))), .second, .val (.int (3 : Int32)), .val (.int (1 : Int32)), .val (.ref b81), .val (.ref b92), .val (.ref b101), .val (.long (own_vf u2 1)), .second, .val (.long (WN rr)), .second, .val (.int (1 : Int32))] []))
      refine TAIL _ _ _ _ _ _ g0 g1 g2 g3 _ _ _ _ X188 rfl Vk188 Vw188 z188_E_b101 Fq188_keys Fq188_values Fq188_slotBits z188_V_b81 z188_V_b92 N188 Z188 gf0 (by rw [if_pos (by decide), if_neg (by decide)]; exact gb0_ (by decide)) gf1 (by rw [if_pos (by decide), if_pos rfl]; exact ga1_ (by decide)) gf2 (by rw [if_pos (by decide), if_neg (by decide)]; exact gb2_ (by decide)) gf3 (by rw [if_neg (by decide)]; exact ga3_ (by decide)) ?_
      intro TM lcM XM NM
      show own_Go _ _ _ _ (TM.setTop (mkF m 446 #[.val (.int u0), .val (.long u1), .second, .val (.long u2), .second, .val (.long (own_inv (-7046029254386353131 : Int64))), .second, .val (.int (3 : Int32)), .val (.int (1 : Int32)), .val (.ref b81), .val (.ref b92), .val (.ref b101), .val (.long (own_vf u2 1)), .second, .val (.long (WN rr)), .second, .val (.int (1 : Int32))] [(.int (1 : Int32))]))
      obtain ⟨fs, hr, hrun, hended, hW, hsame⟩ := XM.leave (v := some (.int (1 : Int32))) (fun h => by rw [Bd.returns] at h; cases h)
      refine own_out (retN XM hx (t := .boolean) Bd.returns (by simp) (hb hby at_446) hr) ⟨hrun, hended, _, _, rfl, ?_, ⟨_, rfl⟩, hW, hsame.mono (by decide) (by decide)⟩
      show Q0 Z u0 u1 u2 h0 n0 _ TM.heap _
      exact ⟨rfl, NM⟩
    · skip
      rw [hs182]
      have HT := own_H4 u0 u1 u2
      obtain ⟨ts, tq, es, er, eg0, eg1, eg2, eg3⟩ := own_chkE (own_c32 _ (own_offN u0 0).1 _ (own_offN u0 1).1 _ (own_offN u0 2).1 _ (own_offN u0 3).1)
      have ess : ts = tt := Option.some.inj (es.symm.trans etN)
      rw [ess] at er
      obtain ⟨rr, KR, WR, rf, rz, rm, RQ⟩ := own_stepR HT RR3 (n := 3) (a := 2) (by decide) (by decide) er
      obtain ⟨g0, gf0, ga0_, gb0_⟩ := own_stepG HT RQ (q := 0) (by decide) eg0
      obtain ⟨g1, gf1, ga1_, gb1_⟩ := own_stepG HT RQ (q := 1) (by decide) eg1
      obtain ⟨g2, gf2, ga2_, gb2_⟩ := own_stepG HT RQ (q := 2) (by decide) eg2
      obtain ⟨g3, gf3, ga3_, gb3_⟩ := own_stepG HT RQ (q := 3) (by decide) eg3
      show own_Go _ _ _ _ (T181.setTop (mkF m 220 #[.val (.int u0), .val (.long u1), .second, .val (.long u2), .second, .val (.long (own_inv (-7046029254386353131 : Int64))), .second, .val (.int (3 : Int32)), .val (.int (2 : Int32)), .val (.ref b81), .val (.ref b92), .val (.ref b101), .unset, .unset, .unset, .unset, .unset] []))
      refine own_st (fun _ k => XS.iload X181.here hx rfl (hb hby at_220) rfl k) ?_
      refine own_st (fun _ k => XS.iload X181.here hx rfl (hb hby at_222) rfl k) ?_
      show own_Go _ _ _ _ (T181.setTop (mkF m 224 #[.val (.int u0), .val (.long u1), .second, .val (.long u2), .second, .val (.long (own_inv (-7046029254386353131 : Int64))), .second, .val (.int (3 : Int32)), .val (.int (2 : Int32)), .val (.ref b81), .val (.ref b92), .val (.ref b101), .unset, .unset, .unset, .unset, .unset] [(.int (3 : Int32)), (.int (2 : Int32))]))
      refine own_st (fun _ k => XS.icmpNo X181.here hx rfl (hb hby at_224) rfl (tlt (by decide : ((2 : Int32) < (3 : Int32)))).2.1 k) ?_
      refine own_st (fun _ k => XS.aload X181.here hx rfl (hb hby at_227) rfl rfl k) ?_
      refine own_st (fun _ k => XS.iload X181.here hx rfl (hb hby at_229) rfl k) ?_
      show own_Go _ _ _ _ (T181.setTop (mkF m 231 #[.val (.int u0), .val (.long u1), .second, .val (.long u2), .second, .val (.long (own_inv (-7046029254386353131 : Int64))), .second, .val (.int (3 : Int32)), .val (.int (2 : Int32)), .val (.ref b81), .val (.ref b92), .val (.ref b101), .unset, .unset, .unset, .unset, .unset] [(.int (2 : Int32)), (.ref b92)]))
      obtain ⟨cl189, Ar189, -, Sz189, Nn189, Hs189, -⟩ := id z181_V_b92
      have hin189 : ¬ ((2 : Int32) < 0 ∨ cl189.slots.size ≤ ((2 : Int32)).toNatClampNeg) := inb_of Sz189 ⟨(by decide : ¬ ((2 : Int32) < (0 : Int32))), (by decide : (2 : Int32) < (4 : Int32))⟩
      have hat189 : cl189.slots[((2 : Int32)).toNatClampNeg]? = some (.long (own_vf u2 2)) := Hs189.at hin189 rfl
      refine own_st (X181.laload hx (j := (2 : Int32)) (v := (.long (own_vf u2 2))) Ar189.1 (State.isArrayOf_alike hZ.alike Ar189.2.1) Ar189.2.2 hin189 hat189 (g := (mkF m 231 #[.val (.int u0), .val (.long u1), .second, .val (.long u2), .second, .val (.long (own_inv (-7046029254386353131 : Int64))), .second, .val (.int (3 : Int32)), .val (.int (2 : Int32)), .val (.ref b81), .val (.ref b92), .val (.ref b101), .unset, .unset, .unset, .unset, .unset] [(.int (2 : Int32)), (.ref b92)])) rfl rfl (hb hby at_231)) ?_
      refine own_st (fun _ k => XS.goto X181.here hx rfl (pc0 := 232) (pc' := 236) rfl (hb hby at_232) (by decide) (by decide) k) ?_
      refine own_st (fun _ k => XS.lstore X181.here hx rfl (hb hby at_236) rfl (l' := #[.val (.int u0), .val (.long u1), .second, .val (.long u2), .second, .val (.long (own_inv (-7046029254386353131 : Int64))), .second, .val (.int (3 : Int32)), .val (.int (2 : Int32)), .val (.ref b81), .val (.ref b92), .val (.ref b101), .val (.long (own_vf u2 2)), .second, .unset, .unset, .unset]) rfl k) ?_
      refine own_st (fun _ k => XS.aload X181.here hx rfl (hb hby at_238) rfl rfl k) ?_
      refine own_st (fun _ k => XS.aload X181.here hx rfl (hb hby at_240) rfl rfl k) ?_
      refine own_st (fun _ k => XS.iload X181.here hx rfl (hb hby at_242) rfl k) ?_
      show own_Go _ _ _ _ (T181.setTop (mkF m 244 #[.val (.int u0), .val (.long u1), .second, .val (.long u2), .second, .val (.long (own_inv (-7046029254386353131 : Int64))), .second, .val (.int (3 : Int32)), .val (.int (2 : Int32)), .val (.ref b81), .val (.ref b92), .val (.ref b101), .val (.long (own_vf u2 2)), .second, .unset, .unset, .unset] [(.int (2 : Int32)), (.ref b81), (.ref b101)]))
      obtain ⟨cl190, Ar190, -, Sz190, Nn190, Hs190, -⟩ := id z181_V_b81
      have hin190 : ¬ ((2 : Int32) < 0 ∨ cl190.slots.size ≤ ((2 : Int32)).toNatClampNeg) := inb_of Sz190 ⟨(by decide : ¬ ((2 : Int32) < (0 : Int32))), (by decide : (2 : Int32) < (5 : Int32))⟩
      have hat190 : cl190.slots[((2 : Int32)).toNatClampNeg]? = some (.long (own_kf u0 u1 2)) := Hs190.at hin190 rfl
      refine own_st (X181.laload hx (j := (2 : Int32)) (v := (.long (own_kf u0 u1 2))) Ar190.1 (State.isArrayOf_alike hZ.alike Ar190.2.1) Ar190.2.2 hin190 hat190 (g := (mkF m 244 #[.val (.int u0), .val (.long u1), .second, .val (.long u2), .second, .val (.long (own_inv (-7046029254386353131 : Int64))), .second, .val (.int (3 : Int32)), .val (.int (2 : Int32)), .val (.ref b81), .val (.ref b92), .val (.ref b101), .val (.long (own_vf u2 2)), .second, .unset, .unset, .unset] [(.int (2 : Int32)), (.ref b81), (.ref b101)])) rfl rfl (hb hby at_244)) ?_
      show own_Go _ _ _ _ (T181.setTop (mkF m 245 #[.val (.int u0), .val (.long u1), .second, .val (.long u2), .second, .val (.long (own_inv (-7046029254386353131 : Int64))), .second, .val (.int (3 : Int32)), .val (.int (2 : Int32)), .val (.ref b81), .val (.ref b92), .val (.ref b101), .val (.long (own_vf u2 2)), .second, .unset, .unset, .unset] [(.long (own_kf u0 u1 2)), (.ref b101)]))
      obtain ⟨cq191, kq191, q191a, q191b, q191c⟩ := isOf hZ rfl z181_E_b101
      obtain ⟨_, _, ⟨T191, L191, k191, n191⟩, -, X191, ⟨Lc191, hQ191, l191, y191, z191⟩, st191⟩ := X181.virtualBack hx (y := (⟨"quillvax/store/LongMap", "remove", "(J)J"⟩ : MethodName)) (z := (⟨"quillvax/store/LongMap", "remove", "(J)J"⟩ : MethodName)) hown (mvT hZ (hw _ (List.mem_of_getElem? (i := 34) rfl))) (mvT hZ (hw _ (List.mem_of_getElem? (i := 35) rfl))) (notFace_of_selects (args := #[]) (mvT hZ (hw _ (List.mem_of_getElem? (i := 37) rfl)))) (mvT hZ (hw _ (List.mem_of_getElem? (i := 37) rfl))) (mvT hZ (hw _ (List.mem_of_getElem? (i := 36) rfl))) (by decide) (backOf (W := 0) (rm7 l Z a0 hw [] b101 ka102 wa102 kk102 kw102 KN WN (own_kf u0 u1 2) rr KR WR (3 : Int32) T181.heap n0 Z181 z181_E_b101 Fq181_keys Fq181_values Fq181_slotBits Fz181 VkN VwN gnb101 gnka102 gnwa102 neb101_ka102 neb101_wa102 nk102 rf (by rw [rz]; exact own_vnz u2 2 (by decide)) rm) hZ (hw _ (List.mem_of_getElem? (i := 38) rfl)) (hw _ (List.mem_of_getElem? (i := 16) rfl)) (by decide) (by decide)) q191a q191c (g := (mkF m 245 #[.val (.int u0), .val (.long u1), .second, .val (.long u2), .second, .val (.long (own_inv (-7046029254386353131 : Int64))), .second, .val (.int (3 : Int32)), .val (.int (2 : Int32)), .val (.ref b81), .val (.ref b92), .val (.ref b101), .val (.long (own_vf u2 2)), .second, .unset, .unset, .unset] [(.long (own_kf u0 u1 2)), (.ref b101)])) rfl (by rw [hml]; rfl) (Steps.refl _) (argsL := [(.long (own_kf u0 u1 2))]) (rest := []) (lenOf own_pd0 rfl) rfl (by show 2 * 0 + _ ≤ _; exact Nat.le_of_eq rfl) (hb hby at_245) (fun _ _ => ⟨rfl, rfl, (by decide : 5 + 0 ≤ _), (by decide : 45 + 0 ≤ _)⟩)
      dsimp only [Pt.U, Pt.locs, Pt.cells, Pt.slots] at X191 l191 y191 z191 st191 hQ191
      rw [l191, y191, z191] at X191
      obtain ⟨rfl, Nq191, Kq191, Eq191, Fq191_keys, Fq191_values, Fq191_slotBits, Vk191, Vw191⟩ := hQ191
      have N191 := Fr.app N181 Nq191
      refine own_tr st191 ?_
      have z191_V_b81 := z181_V_b81.keep Kq191 (ninS neb81_b101 (ninS neb81_ka102 (ninS neb81_wa102 nin0)))
      have z191_V_b92 := z181_V_b92.keep Kq191 (ninS neb92_b101 (ninS neb92_ka102 (ninS neb92_wa102 nin0)))
      have z191_E_b101 := z181_E_b101.keep Kq191
      have Z191 : n0 ≤ T191.heap.size := Nat.le_trans Z181 Kq191.1
      have Kk191 : Keep h0 T191.heap [] := Kk181.trans Kq191 (allS (Or.inr gkb101) (allS (Or.inr gkka102) (allS (Or.inr gkwa102) all0)))
      refine own_st (fun _ k => XS.lstore X191.here hx rfl (hb hby at_248) rfl (l' := #[.val (.int u0), .val (.long u1), .second, .val (.long u2), .second, .val (.long (own_inv (-7046029254386353131 : Int64))), .second, .val (.int (3 : Int32)), .val (.int (2 : Int32)), .val (.ref b81), .val (.ref b92), .val (.ref b101), .val (.long (own_vf u2 2)), .second, .val (.long (WN rr)), .second, .unset]) rfl k) ?_
      refine own_st (fun _ k => XS.lload X191.here hx rfl (hb hby at_250) rfl k) ?_
      refine own_st (fun _ k => XS.lload X191.here hx rfl (hb hby at_252) rfl k) ?_
      show own_Go _ _ _ _ (T191.setTop (mkF m 254 #[.val (.int u0), .val (.long u1), .second, .val (.long u2), .second, .val (.long (own_inv (-7046029254386353131 : Int64))), .second, .val (.int (3 : Int32)), .val (.int (2 : Int32)), .val (.ref b81), .val (.ref b92), .val (.ref b101), .val (.long (own_vf u2 2)), .second, .val (.long (WN rr)), .second, .unset] [(.long (own_vf u2 2)), (.long (WN rr))]))
      refine own_st (fun _ k => XS.lcmp X191.here hx rfl (hb hby at_254) rfl k) ?_
      show own_Go _ _ _ _ (T191.setTop (mkF m 255 #[.val (.int u0), .val (.long u1), .second, .val (.long u2), .second, .val (.long (own_inv (-7046029254386353131 : Int64))), .second, .val (.int (3 : Int32)), .val (.int (2 : Int32)), .val (.ref b81), .val (.ref b92), .val (.ref b101), .val (.long (own_vf u2 2)), .second, .val (.long (WN rr)), .second, .unset] [(.int (lcmpW (WN rr) (own_vf u2 2)))]))
      refine own_st (fun _ k => XS.ifNo X191.here hx rfl (hb hby at_255) rfl ((if0 _ _).trans (teq ((lw_eq _ _).mpr rz)).2) k) ?_
      refine own_st (fun _ k => XS.iconst X191.here hx rfl (hb hby at_258) k) ?_
      refine own_st (fun _ k => XS.goto X191.here hx rfl (pc0 := 259) (pc' := 263) rfl (hb hby at_259) (by decide) (by decide) k) ?_
      refine own_st (fun _ k => XS.istore X191.here hx rfl (hb hby at_263) rfl (l' := #[.val (.int u0), .val (.long u1), .second, .val (.long u2), .second, .val (.long (own_inv (-7046029254386353131 : Int64))), .second, .val (.int (3 : Int32)), .val (.int (2 : Int32)), .val (.ref b81), .val (.ref b92), .val (.ref b101), .val (.long (own_vf u2 2)), .second, .val (.long (WN rr)), .second, .val (.int (1 : Int32))]) rfl k) ?_
      show own_Go _ _ _ _ (T191.setTop (mkF m 265 #[.val (.int u0), .val (.long u1), .second, .val (.long u2), .second, .val (.long (own_inv (-7046029254386353131 : Int64))), .second, .val (.int (3 : Int32)), .val (.int (2 : Int32)), .val (.ref b81), .val (.ref b92), .val (.ref b101), .val (.long (own_vf u2 2)), .second, .val (.long (WN rr)), .second, .val (.int (1 : Int32))] []))
      refine TAIL _ _ _ _ _ _ g0 g1 g2 g3 _ _ _ _ X191 rfl Vk191 Vw191 z191_E_b101 Fq191_keys Fq191_values Fq191_slotBits z191_V_b81 z191_V_b92 N191 Z191 gf0 (by rw [if_pos (by decide), if_neg (by decide)]; exact gb0_ (by decide)) gf1 (by rw [if_pos (by decide), if_neg (by decide)]; exact gb1_ (by decide)) gf2 (by rw [if_pos (by decide), if_pos rfl]; exact ga2_ (by decide)) gf3 (by rw [if_neg (by decide)]; exact ga3_ (by decide)) ?_
      intro TM lcM XM NM
      show own_Go _ _ _ _ (TM.setTop (mkF m 446 #[.val (.int u0), .val (.long u1), .second, .val (.long u2), .second, .val (.long (own_inv (-7046029254386353131 : Int64))), .second, .val (.int (3 : Int32)), .val (.int (2 : Int32)), .val (.ref b81), .val (.ref b92), .val (.ref b101), .val (.long (own_vf u2 2)), .second, .val (.long (WN rr)), .second, .val (.int (1 : Int32))] [(.int (1 : Int32))]))
      obtain ⟨fs, hr, hrun, hended, hW, hsame⟩ := XM.leave (v := some (.int (1 : Int32))) (fun h => by rw [Bd.returns] at h; cases h)
      refine own_out (retN XM hx (t := .boolean) Bd.returns (by simp) (hb hby at_446) hr) ⟨hrun, hended, _, _, rfl, ?_, ⟨_, rfl⟩, hW, hsame.mono (by decide) (by decide)⟩
      show Q0 Z u0 u1 u2 h0 n0 _ TM.heap _
      exact ⟨rfl, NM⟩
    · skip
      rw [hs182]
      have HT := own_H4 u0 u1 u2
      obtain ⟨ts, tq, es, er, eg0, eg1, eg2, eg3⟩ := own_chkE (own_c33 _ (own_offN u0 0).1 _ (own_offN u0 1).1 _ (own_offN u0 2).1 _ (own_offN u0 3).1)
      have ess : ts = tt := Option.some.inj (es.symm.trans etN)
      rw [ess] at er
      obtain ⟨rr, rf, rz, RQ⟩ := own_stepA HT RR3 (n := 3) (a := 3) (by decide) (by decide) er
      obtain ⟨g0, gf0, ga0_, gb0_⟩ := own_stepG HT RQ (q := 0) (by decide) eg0
      obtain ⟨g1, gf1, ga1_, gb1_⟩ := own_stepG HT RQ (q := 1) (by decide) eg1
      obtain ⟨g2, gf2, ga2_, gb2_⟩ := own_stepG HT RQ (q := 2) (by decide) eg2
      obtain ⟨g3, gf3, ga3_, gb3_⟩ := own_stepG HT RQ (q := 3) (by decide) eg3
      show own_Go _ _ _ _ (T181.setTop (mkF m 220 #[.val (.int u0), .val (.long u1), .second, .val (.long u2), .second, .val (.long (own_inv (-7046029254386353131 : Int64))), .second, .val (.int (3 : Int32)), .val (.int (3 : Int32)), .val (.ref b81), .val (.ref b92), .val (.ref b101), .unset, .unset, .unset, .unset, .unset] []))
      refine own_st (fun _ k => XS.iload X181.here hx rfl (hb hby at_220) rfl k) ?_
      refine own_st (fun _ k => XS.iload X181.here hx rfl (hb hby at_222) rfl k) ?_
      show own_Go _ _ _ _ (T181.setTop (mkF m 224 #[.val (.int u0), .val (.long u1), .second, .val (.long u2), .second, .val (.long (own_inv (-7046029254386353131 : Int64))), .second, .val (.int (3 : Int32)), .val (.int (3 : Int32)), .val (.ref b81), .val (.ref b92), .val (.ref b101), .unset, .unset, .unset, .unset, .unset] [(.int (3 : Int32)), (.int (3 : Int32))]))
      refine own_st (fun _ k => XS.icmpYes X181.here hx rfl (pc0 := 224) (pc' := 235) rfl (hb hby at_224) rfl (flt (by decide : ¬ ((3 : Int32) < (3 : Int32)))).2.1 (by decide) (by decide) k) ?_
      refine own_st (fun _ k => XS.lconst X181.here hx rfl (hb hby at_235) k) ?_
      refine own_st (fun _ k => XS.lstore X181.here hx rfl (hb hby at_236) rfl (l' := #[.val (.int u0), .val (.long u1), .second, .val (.long u2), .second, .val (.long (own_inv (-7046029254386353131 : Int64))), .second, .val (.int (3 : Int32)), .val (.int (3 : Int32)), .val (.ref b81), .val (.ref b92), .val (.ref b101), .val (.long (0 : Int64)), .second, .unset, .unset, .unset]) rfl k) ?_
      refine own_st (fun _ k => XS.aload X181.here hx rfl (hb hby at_238) rfl rfl k) ?_
      refine own_st (fun _ k => XS.aload X181.here hx rfl (hb hby at_240) rfl rfl k) ?_
      refine own_st (fun _ k => XS.iload X181.here hx rfl (hb hby at_242) rfl k) ?_
      show own_Go _ _ _ _ (T181.setTop (mkF m 244 #[.val (.int u0), .val (.long u1), .second, .val (.long u2), .second, .val (.long (own_inv (-7046029254386353131 : Int64))), .second, .val (.int (3 : Int32)), .val (.int (3 : Int32)), .val (.ref b81), .val (.ref b92), .val (.ref b101), .val (.long (0 : Int64)), .second, .unset, .unset, .unset] [(.int (3 : Int32)), (.ref b81), (.ref b101)]))
      obtain ⟨cl192, Ar192, -, Sz192, Nn192, Hs192, -⟩ := id z181_V_b81
      have hin192 : ¬ ((3 : Int32) < 0 ∨ cl192.slots.size ≤ ((3 : Int32)).toNatClampNeg) := inb_of Sz192 ⟨(by decide : ¬ ((3 : Int32) < (0 : Int32))), (by decide : (3 : Int32) < (5 : Int32))⟩
      have hat192 : cl192.slots[((3 : Int32)).toNatClampNeg]? = some (.long (own_kf u0 u1 3)) := Hs192.at hin192 rfl
      refine own_st (X181.laload hx (j := (3 : Int32)) (v := (.long (own_kf u0 u1 3))) Ar192.1 (State.isArrayOf_alike hZ.alike Ar192.2.1) Ar192.2.2 hin192 hat192 (g := (mkF m 244 #[.val (.int u0), .val (.long u1), .second, .val (.long u2), .second, .val (.long (own_inv (-7046029254386353131 : Int64))), .second, .val (.int (3 : Int32)), .val (.int (3 : Int32)), .val (.ref b81), .val (.ref b92), .val (.ref b101), .val (.long (0 : Int64)), .second, .unset, .unset, .unset] [(.int (3 : Int32)), (.ref b81), (.ref b101)])) rfl rfl (hb hby at_244)) ?_
      show own_Go _ _ _ _ (T181.setTop (mkF m 245 #[.val (.int u0), .val (.long u1), .second, .val (.long u2), .second, .val (.long (own_inv (-7046029254386353131 : Int64))), .second, .val (.int (3 : Int32)), .val (.int (3 : Int32)), .val (.ref b81), .val (.ref b92), .val (.ref b101), .val (.long (0 : Int64)), .second, .unset, .unset, .unset] [(.long (own_kf u0 u1 3)), (.ref b101)]))
      obtain ⟨cq193, kq193, q193a, q193b, q193c⟩ := isOf hZ rfl z181_E_b101
      obtain ⟨_, _, ⟨T193, L193, k193, n193⟩, -, X193, ⟨Lc193, hQ193, l193, y193, z193⟩, st193⟩ := X181.virtualBack hx (y := (⟨"quillvax/store/LongMap", "remove", "(J)J"⟩ : MethodName)) (z := (⟨"quillvax/store/LongMap", "remove", "(J)J"⟩ : MethodName)) hown (mvT hZ (hw _ (List.mem_of_getElem? (i := 34) rfl))) (mvT hZ (hw _ (List.mem_of_getElem? (i := 35) rfl))) (notFace_of_selects (args := #[]) (mvT hZ (hw _ (List.mem_of_getElem? (i := 37) rfl)))) (mvT hZ (hw _ (List.mem_of_getElem? (i := 37) rfl))) (mvT hZ (hw _ (List.mem_of_getElem? (i := 36) rfl))) (by decide) (backOf (W := 0) (rm7a l Z a0 hw [] b101 ka102 wa102 kk102 kw102 KN WN (own_kf u0 u1 3) rr T181.heap n0 Z181 z181_E_b101 Fq181_keys Fq181_values Fq181_slotBits VkN VwN rf rz) hZ (hw _ (List.mem_of_getElem? (i := 38) rfl)) (hw _ (List.mem_of_getElem? (i := 16) rfl)) (by decide) (by decide)) q193a q193c (g := (mkF m 245 #[.val (.int u0), .val (.long u1), .second, .val (.long u2), .second, .val (.long (own_inv (-7046029254386353131 : Int64))), .second, .val (.int (3 : Int32)), .val (.int (3 : Int32)), .val (.ref b81), .val (.ref b92), .val (.ref b101), .val (.long (0 : Int64)), .second, .unset, .unset, .unset] [(.long (own_kf u0 u1 3)), (.ref b101)])) rfl (by rw [hml]; rfl) (Steps.refl _) (argsL := [(.long (own_kf u0 u1 3))]) (rest := []) (lenOf own_pd0 rfl) rfl (by show 2 * 0 + _ ≤ _; exact Nat.le_of_eq rfl) (hb hby at_245) (fun _ _ => ⟨rfl, rfl, (by decide : 5 + 0 ≤ _), (by decide : 45 + 0 ≤ _)⟩)
      dsimp only [Pt.U, Pt.locs, Pt.cells, Pt.slots] at X193 l193 y193 z193 st193 hQ193
      rw [l193, y193, z193] at X193
      obtain ⟨rfl, Nq193, eq193⟩ := hQ193
      have N193 := Fr.app N181 Nq193
      refine own_tr st193 ?_
      refine own_st (fun _ k => XS.lstore X193.here hx rfl (hb hby at_248) rfl (l' := #[.val (.int u0), .val (.long u1), .second, .val (.long u2), .second, .val (.long (own_inv (-7046029254386353131 : Int64))), .second, .val (.int (3 : Int32)), .val (.int (3 : Int32)), .val (.ref b81), .val (.ref b92), .val (.ref b101), .val (.long (0 : Int64)), .second, .val (.long (0 : Int64)), .second, .unset]) rfl k) ?_
      refine own_st (fun _ k => XS.lload X193.here hx rfl (hb hby at_250) rfl k) ?_
      refine own_st (fun _ k => XS.lload X193.here hx rfl (hb hby at_252) rfl k) ?_
      show own_Go _ _ _ _ (T193.setTop (mkF m 254 #[.val (.int u0), .val (.long u1), .second, .val (.long u2), .second, .val (.long (own_inv (-7046029254386353131 : Int64))), .second, .val (.int (3 : Int32)), .val (.int (3 : Int32)), .val (.ref b81), .val (.ref b92), .val (.ref b101), .val (.long (0 : Int64)), .second, .val (.long (0 : Int64)), .second, .unset] [(.long (0 : Int64)), (.long (0 : Int64))]))
      refine own_st (fun _ k => XS.lcmp X193.here hx rfl (hb hby at_254) rfl k) ?_
      show own_Go _ _ _ _ (T193.setTop (mkF m 255 #[.val (.int u0), .val (.long u1), .second, .val (.long u2), .second, .val (.long (own_inv (-7046029254386353131 : Int64))), .second, .val (.int (3 : Int32)), .val (.int (3 : Int32)), .val (.ref b81), .val (.ref b92), .val (.ref b101), .val (.long (0 : Int64)), .second, .val (.long (0 : Int64)), .second, .unset] [(.int (lcmpW (0 : Int64) (0 : Int64)))]))
      rw [show (lcmpW (0 : Int64) (0 : Int64)) = (0 : Int32) from by decide]
      show own_Go _ _ _ _ (T193.setTop (mkF m 255 #[.val (.int u0), .val (.long u1), .second, .val (.long u2), .second, .val (.long (own_inv (-7046029254386353131 : Int64))), .second, .val (.int (3 : Int32)), .val (.int (3 : Int32)), .val (.ref b81), .val (.ref b92), .val (.ref b101), .val (.long (0 : Int64)), .second, .val (.long (0 : Int64)), .second, .unset] [(.int (0 : Int32))]))
      refine own_st (fun _ k => XS.ifNo X193.here hx rfl (hb hby at_255) rfl ((if0 _ _).trans (teq (by decide : ((0 : Int32) = (0 : Int32)))).2) k) ?_
      refine own_st (fun _ k => XS.iconst X193.here hx rfl (hb hby at_258) k) ?_
      refine own_st (fun _ k => XS.goto X193.here hx rfl (pc0 := 259) (pc' := 263) rfl (hb hby at_259) (by decide) (by decide) k) ?_
      refine own_st (fun _ k => XS.istore X193.here hx rfl (hb hby at_263) rfl (l' := #[.val (.int u0), .val (.long u1), .second, .val (.long u2), .second, .val (.long (own_inv (-7046029254386353131 : Int64))), .second, .val (.int (3 : Int32)), .val (.int (3 : Int32)), .val (.ref b81), .val (.ref b92), .val (.ref b101), .val (.long (0 : Int64)), .second, .val (.long (0 : Int64)), .second, .val (.int (1 : Int32))]) rfl k) ?_
      show own_Go _ _ _ _ (T193.setTop (mkF m 265 #[.val (.int u0), .val (.long u1), .second, .val (.long u2), .second, .val (.long (own_inv (-7046029254386353131 : Int64))), .second, .val (.int (3 : Int32)), .val (.int (3 : Int32)), .val (.ref b81), .val (.ref b92), .val (.ref b101), .val (.long (0 : Int64)), .second, .val (.long (0 : Int64)), .second, .val (.int (1 : Int32))] []))
      refine TAIL _ _ _ _ _ _ g0 g1 g2 g3 _ _ _ _ X193 eq193 VkN VwN z181_E_b101 Fq181_keys Fq181_values Fq181_slotBits z181_V_b81 z181_V_b92 N193 Z181 gf0 (by rw [if_pos (by decide), if_neg (by decide)]; exact gb0_ (by decide)) gf1 (by rw [if_pos (by decide), if_neg (by decide)]; exact gb1_ (by decide)) gf2 (by rw [if_pos (by decide), if_neg (by decide)]; exact gb2_ (by decide)) gf3 (by rw [if_neg (by decide)]; exact ga3_ (by decide)) ?_
      intro TM lcM XM NM
      show own_Go _ _ _ _ (TM.setTop (mkF m 446 #[.val (.int u0), .val (.long u1), .second, .val (.long u2), .second, .val (.long (own_inv (-7046029254386353131 : Int64))), .second, .val (.int (3 : Int32)), .val (.int (3 : Int32)), .val (.ref b81), .val (.ref b92), .val (.ref b101), .val (.long (0 : Int64)), .second, .val (.long (0 : Int64)), .second, .val (.int (1 : Int32))] [(.int (1 : Int32))]))
      obtain ⟨fs, hr, hrun, hended, hW, hsame⟩ := XM.leave (v := some (.int (1 : Int32))) (fun h => by rw [Bd.returns] at h; cases h)
      refine own_out (retN XM hx (t := .boolean) Bd.returns (by simp) (hb hby at_446) hr) ⟨hrun, hended, _, _, rfl, ?_, ⟨_, rfl⟩, hW, hsame.mono (by decide) (by decide)⟩
      show Q0 Z u0 u1 u2 h0 n0 _ TM.heap _
      exact ⟨rfl, NM⟩
    · skip
      rw [hs182]
      have HT := own_H5 u0 u1 u2
      obtain ⟨ts, tq, es, er, eg0, eg1, eg2, eg3⟩ := own_chkE (own_c34 _ (own_offN u0 0).1 _ (own_offN u0 1).1 _ (own_offN u0 2).1 _ (own_offN u0 3).1 _ (own_offN u0 4).1)
      have ess : ts = tt := Option.some.inj (es.symm.trans etN)
      rw [ess] at er
      obtain ⟨rr, rf, rz, RQ⟩ := own_stepA HT RR3 (n := 3) (a := 4) (by decide) (by decide) er
      obtain ⟨g0, gf0, ga0_, gb0_⟩ := own_stepG HT RQ (q := 0) (by decide) eg0
      obtain ⟨g1, gf1, ga1_, gb1_⟩ := own_stepG HT RQ (q := 1) (by decide) eg1
      obtain ⟨g2, gf2, ga2_, gb2_⟩ := own_stepG HT RQ (q := 2) (by decide) eg2
      obtain ⟨g3, gf3, ga3_, gb3_⟩ := own_stepG HT RQ (q := 3) (by decide) eg3
      show own_Go _ _ _ _ (T181.setTop (mkF m 220 #[.val (.int u0), .val (.long u1), .second, .val (.long u2), .second, .val (.long (own_inv (-7046029254386353131 : Int64))), .second, .val (.int (3 : Int32)), .val (.int (4 : Int32)), .val (.ref b81), .val (.ref b92), .val (.ref b101), .unset, .unset, .unset, .unset, .unset] []))
      refine own_st (fun _ k => XS.iload X181.here hx rfl (hb hby at_220) rfl k) ?_
      refine own_st (fun _ k => XS.iload X181.here hx rfl (hb hby at_222) rfl k) ?_
      show own_Go _ _ _ _ (T181.setTop (mkF m 224 #[.val (.int u0), .val (.long u1), .second, .val (.long u2), .second, .val (.long (own_inv (-7046029254386353131 : Int64))), .second, .val (.int (3 : Int32)), .val (.int (4 : Int32)), .val (.ref b81), .val (.ref b92), .val (.ref b101), .unset, .unset, .unset, .unset, .unset] [(.int (3 : Int32)), (.int (4 : Int32))]))
      refine own_st (fun _ k => XS.icmpYes X181.here hx rfl (pc0 := 224) (pc' := 235) rfl (hb hby at_224) rfl (flt (by decide : ¬ ((4 : Int32) < (3 : Int32)))).2.1 (by decide) (by decide) k) ?_
      refine own_st (fun _ k => XS.lconst X181.here hx rfl (hb hby at_235) k) ?_
      refine own_st (fun _ k => XS.lstore X181.here hx rfl (hb hby at_236) rfl (l' := #[.val (.int u0), .val (.long u1), .second, .val (.long u2), .second, .val (.long (own_inv (-7046029254386353131 : Int64))), .second, .val (.int (3 : Int32)), .val (.int (4 : Int32)), .val (.ref b81), .val (.ref b92), .val (.ref b101), .val (.long (0 : Int64)), .second, .unset, .unset, .unset]) rfl k) ?_
      refine own_st (fun _ k => XS.aload X181.here hx rfl (hb hby at_238) rfl rfl k) ?_
      refine own_st (fun _ k => XS.aload X181.here hx rfl (hb hby at_240) rfl rfl k) ?_
      refine own_st (fun _ k => XS.iload X181.here hx rfl (hb hby at_242) rfl k) ?_
      show own_Go _ _ _ _ (T181.setTop (mkF m 244 #[.val (.int u0), .val (.long u1), .second, .val (.long u2), .second, .val (.long (own_inv (-7046029254386353131 : Int64))), .second, .val (.int (3 : Int32)), .val (.int (4 : Int32)), .val (.ref b81), .val (.ref b92), .val (.ref b101), .val (.long (0 : Int64)), .second, .unset, .unset, .unset] [(.int (4 : Int32)), (.ref b81), (.ref b101)]))
      obtain ⟨cl194, Ar194, -, Sz194, Nn194, Hs194, -⟩ := id z181_V_b81
      have hin194 : ¬ ((4 : Int32) < 0 ∨ cl194.slots.size ≤ ((4 : Int32)).toNatClampNeg) := inb_of Sz194 ⟨(by decide : ¬ ((4 : Int32) < (0 : Int32))), (by decide : (4 : Int32) < (5 : Int32))⟩
      have hat194 : cl194.slots[((4 : Int32)).toNatClampNeg]? = some (.long (own_kf u0 u1 4)) := Hs194.at hin194 rfl
      refine own_st (X181.laload hx (j := (4 : Int32)) (v := (.long (own_kf u0 u1 4))) Ar194.1 (State.isArrayOf_alike hZ.alike Ar194.2.1) Ar194.2.2 hin194 hat194 (g := (mkF m 244 #[.val (.int u0), .val (.long u1), .second, .val (.long u2), .second, .val (.long (own_inv (-7046029254386353131 : Int64))), .second, .val (.int (3 : Int32)), .val (.int (4 : Int32)), .val (.ref b81), .val (.ref b92), .val (.ref b101), .val (.long (0 : Int64)), .second, .unset, .unset, .unset] [(.int (4 : Int32)), (.ref b81), (.ref b101)])) rfl rfl (hb hby at_244)) ?_
      show own_Go _ _ _ _ (T181.setTop (mkF m 245 #[.val (.int u0), .val (.long u1), .second, .val (.long u2), .second, .val (.long (own_inv (-7046029254386353131 : Int64))), .second, .val (.int (3 : Int32)), .val (.int (4 : Int32)), .val (.ref b81), .val (.ref b92), .val (.ref b101), .val (.long (0 : Int64)), .second, .unset, .unset, .unset] [(.long (own_kf u0 u1 4)), (.ref b101)]))
      obtain ⟨cq195, kq195, q195a, q195b, q195c⟩ := isOf hZ rfl z181_E_b101
      obtain ⟨_, _, ⟨T195, L195, k195, n195⟩, -, X195, ⟨Lc195, hQ195, l195, y195, z195⟩, st195⟩ := X181.virtualBack hx (y := (⟨"quillvax/store/LongMap", "remove", "(J)J"⟩ : MethodName)) (z := (⟨"quillvax/store/LongMap", "remove", "(J)J"⟩ : MethodName)) hown (mvT hZ (hw _ (List.mem_of_getElem? (i := 34) rfl))) (mvT hZ (hw _ (List.mem_of_getElem? (i := 35) rfl))) (notFace_of_selects (args := #[]) (mvT hZ (hw _ (List.mem_of_getElem? (i := 37) rfl)))) (mvT hZ (hw _ (List.mem_of_getElem? (i := 37) rfl))) (mvT hZ (hw _ (List.mem_of_getElem? (i := 36) rfl))) (by decide) (backOf (W := 0) (rm7a l Z a0 hw [] b101 ka102 wa102 kk102 kw102 KN WN (own_kf u0 u1 4) rr T181.heap n0 Z181 z181_E_b101 Fq181_keys Fq181_values Fq181_slotBits VkN VwN rf rz) hZ (hw _ (List.mem_of_getElem? (i := 38) rfl)) (hw _ (List.mem_of_getElem? (i := 16) rfl)) (by decide) (by decide)) q195a q195c (g := (mkF m 245 #[.val (.int u0), .val (.long u1), .second, .val (.long u2), .second, .val (.long (own_inv (-7046029254386353131 : Int64))), .second, .val (.int (3 : Int32)), .val (.int (4 : Int32)), .val (.ref b81), .val (.ref b92), .val (.ref b101), .val (.long (0 : Int64)), .second, .unset, .unset, .unset] [(.long (own_kf u0 u1 4)), (.ref b101)])) rfl (by rw [hml]; rfl) (Steps.refl _) (argsL := [(.long (own_kf u0 u1 4))]) (rest := []) (lenOf own_pd0 rfl) rfl (by show 2 * 0 + _ ≤ _; exact Nat.le_of_eq rfl) (hb hby at_245) (fun _ _ => ⟨rfl, rfl, (by decide : 5 + 0 ≤ _), (by decide : 45 + 0 ≤ _)⟩)
      dsimp only [Pt.U, Pt.locs, Pt.cells, Pt.slots] at X195 l195 y195 z195 st195 hQ195
      rw [l195, y195, z195] at X195
      obtain ⟨rfl, Nq195, eq195⟩ := hQ195
      have N195 := Fr.app N181 Nq195
      refine own_tr st195 ?_
      refine own_st (fun _ k => XS.lstore X195.here hx rfl (hb hby at_248) rfl (l' := #[.val (.int u0), .val (.long u1), .second, .val (.long u2), .second, .val (.long (own_inv (-7046029254386353131 : Int64))), .second, .val (.int (3 : Int32)), .val (.int (4 : Int32)), .val (.ref b81), .val (.ref b92), .val (.ref b101), .val (.long (0 : Int64)), .second, .val (.long (0 : Int64)), .second, .unset]) rfl k) ?_
      refine own_st (fun _ k => XS.lload X195.here hx rfl (hb hby at_250) rfl k) ?_
      refine own_st (fun _ k => XS.lload X195.here hx rfl (hb hby at_252) rfl k) ?_
      show own_Go _ _ _ _ (T195.setTop (mkF m 254 #[.val (.int u0), .val (.long u1), .second, .val (.long u2), .second, .val (.long (own_inv (-7046029254386353131 : Int64))), .second, .val (.int (3 : Int32)), .val (.int (4 : Int32)), .val (.ref b81), .val (.ref b92), .val (.ref b101), .val (.long (0 : Int64)), .second, .val (.long (0 : Int64)), .second, .unset] [(.long (0 : Int64)), (.long (0 : Int64))]))
      refine own_st (fun _ k => XS.lcmp X195.here hx rfl (hb hby at_254) rfl k) ?_
      show own_Go _ _ _ _ (T195.setTop (mkF m 255 #[.val (.int u0), .val (.long u1), .second, .val (.long u2), .second, .val (.long (own_inv (-7046029254386353131 : Int64))), .second, .val (.int (3 : Int32)), .val (.int (4 : Int32)), .val (.ref b81), .val (.ref b92), .val (.ref b101), .val (.long (0 : Int64)), .second, .val (.long (0 : Int64)), .second, .unset] [(.int (lcmpW (0 : Int64) (0 : Int64)))]))
      rw [show (lcmpW (0 : Int64) (0 : Int64)) = (0 : Int32) from by decide]
      show own_Go _ _ _ _ (T195.setTop (mkF m 255 #[.val (.int u0), .val (.long u1), .second, .val (.long u2), .second, .val (.long (own_inv (-7046029254386353131 : Int64))), .second, .val (.int (3 : Int32)), .val (.int (4 : Int32)), .val (.ref b81), .val (.ref b92), .val (.ref b101), .val (.long (0 : Int64)), .second, .val (.long (0 : Int64)), .second, .unset] [(.int (0 : Int32))]))
      refine own_st (fun _ k => XS.ifNo X195.here hx rfl (hb hby at_255) rfl ((if0 _ _).trans (teq (by decide : ((0 : Int32) = (0 : Int32)))).2) k) ?_
      refine own_st (fun _ k => XS.iconst X195.here hx rfl (hb hby at_258) k) ?_
      refine own_st (fun _ k => XS.goto X195.here hx rfl (pc0 := 259) (pc' := 263) rfl (hb hby at_259) (by decide) (by decide) k) ?_
      refine own_st (fun _ k => XS.istore X195.here hx rfl (hb hby at_263) rfl (l' := #[.val (.int u0), .val (.long u1), .second, .val (.long u2), .second, .val (.long (own_inv (-7046029254386353131 : Int64))), .second, .val (.int (3 : Int32)), .val (.int (4 : Int32)), .val (.ref b81), .val (.ref b92), .val (.ref b101), .val (.long (0 : Int64)), .second, .val (.long (0 : Int64)), .second, .val (.int (1 : Int32))]) rfl k) ?_
      show own_Go _ _ _ _ (T195.setTop (mkF m 265 #[.val (.int u0), .val (.long u1), .second, .val (.long u2), .second, .val (.long (own_inv (-7046029254386353131 : Int64))), .second, .val (.int (3 : Int32)), .val (.int (4 : Int32)), .val (.ref b81), .val (.ref b92), .val (.ref b101), .val (.long (0 : Int64)), .second, .val (.long (0 : Int64)), .second, .val (.int (1 : Int32))] []))
      refine TAIL _ _ _ _ _ _ g0 g1 g2 g3 _ _ _ _ X195 eq195 VkN VwN z181_E_b101 Fq181_keys Fq181_values Fq181_slotBits z181_V_b81 z181_V_b92 N195 Z181 gf0 (by rw [if_pos (by decide), if_neg (by decide)]; exact gb0_ (by decide)) gf1 (by rw [if_pos (by decide), if_neg (by decide)]; exact gb1_ (by decide)) gf2 (by rw [if_pos (by decide), if_neg (by decide)]; exact gb2_ (by decide)) gf3 (by rw [if_neg (by decide)]; exact ga3_ (by decide)) ?_
      intro TM lcM XM NM
      show own_Go _ _ _ _ (TM.setTop (mkF m 446 #[.val (.int u0), .val (.long u1), .second, .val (.long u2), .second, .val (.long (own_inv (-7046029254386353131 : Int64))), .second, .val (.int (3 : Int32)), .val (.int (4 : Int32)), .val (.ref b81), .val (.ref b92), .val (.ref b101), .val (.long (0 : Int64)), .second, .val (.long (0 : Int64)), .second, .val (.int (1 : Int32))] [(.int (1 : Int32))]))
      obtain ⟨fs, hr, hrun, hended, hW, hsame⟩ := XM.leave (v := some (.int (1 : Int32))) (fun h => by rw [Bd.returns] at h; cases h)
      refine own_out (retN XM hx (t := .boolean) Bd.returns (by simp) (hb hby at_446) hr) ⟨hrun, hended, _, _, rfl, ?_, ⟨_, rfl⟩, hW, hsame.mono (by decide) (by decide)⟩
      show Q0 Z u0 u1 u2 h0 n0 _ TM.heap _
      exact ⟨rfl, NM⟩
  · skip
    rw [hs127]
    have HH := own_H5 u0 u1 u2
    obtain ⟨tt, -, et4, -⟩ := own_chkE (own_c44 _ (own_offN u0 0).1 _ (own_offN u0 1).1 _ (own_offN u0 2).1 _ (own_offN u0 3).1 _ (own_offN u0 4).1)
    have etN := et4
    obtain ⟨tb3, jb3, et3, ef3, ez3, es3⟩ := own_tblS et4
    obtain ⟨tb2, jb2, et2, ef2, ez2, es2⟩ := own_tblS et3
    obtain ⟨tb1, jb1, et1, ef1, ez1, es1⟩ := own_tblS et2
    obtain ⟨tb0, jb0, et0, ef0, ez0, es0⟩ := own_tblS et1
    have RR0 := own_R0 (own_kf u0 u1) (own_vf u2) (own_base u0)
    have eb0 : tb0 = List.replicate 16 0 := (Option.some.inj et0).symm
    rw [← eb0] at RR0
    obtain ⟨r0, f0, z0, RR1⟩ := own_stepP HH RR0 (a := 0) (by decide) ef0 ez0 es0
    obtain ⟨r1, f1, z1, RR2⟩ := own_stepP HH RR1 (a := 1) (by decide) ef1 ez1 es1
    obtain ⟨r2, f2, z2, RR3⟩ := own_stepP HH RR2 (a := 2) (by decide) ef2 ez2 es2
    obtain ⟨r3, f3, z3, RR4⟩ := own_stepP HH RR3 (a := 3) (by decide) ef3 ez3 es3
    obtain ⟨KN, eKN⟩ : ∃ z, (own_upd (own_upd (own_upd (own_upd own_z r0 (own_kf u0 u1 0)) r1 (own_kf u0 u1 1)) r2 (own_kf u0 u1 2)) r3 (own_kf u0 u1 3)) = z := ⟨_, rfl⟩
    obtain ⟨WN, eWN⟩ : ∃ z, (own_upd (own_upd (own_upd (own_upd own_z r0 (own_vf u2 0)) r1 (own_vf u2 1)) r2 (own_vf u2 2)) r3 (own_vf u2 3)) = z := ⟨_, rfl⟩
    rw [eKN, eWN] at RR4
    show own_Go _ _ _ _ (T102.setTop (mkF m 145 #[.val (.int u0), .val (.long u1), .second, .val (.long u2), .second, .val (.long (own_inv (-7046029254386353131 : Int64))), .second, .val (.int (4 : Int32)), .val (.int ((((u0.toUInt32 >>> ((14 : Int32) &&& 31).toUInt32).toInt32) &&& (7 : Int32)) - ((((u0.toUInt32 >>> ((14 : Int32) &&& 31).toUInt32).toInt32) &&& (7 : Int32)) / (5 : Int32)) * (5 : Int32))), .val (.ref b81), .val (.ref b92), .val (.ref b101), .unset, .unset, .unset, .unset, .unset] []))
    refine own_st (fun _ k => XS.iload X102.here hx rfl (hb hby at_145) rfl k) ?_
    show own_Go _ _ _ _ (T102.setTop (mkF m 147 #[.val (.int u0), .val (.long u1), .second, .val (.long u2), .second, .val (.long (own_inv (-7046029254386353131 : Int64))), .second, .val (.int (4 : Int32)), .val (.int ((((u0.toUInt32 >>> ((14 : Int32) &&& 31).toUInt32).toInt32) &&& (7 : Int32)) - ((((u0.toUInt32 >>> ((14 : Int32) &&& 31).toUInt32).toInt32) &&& (7 : Int32)) / (5 : Int32)) * (5 : Int32))), .val (.ref b81), .val (.ref b92), .val (.ref b101), .unset, .unset, .unset, .unset, .unset] [(.int (4 : Int32))]))
    refine own_st (fun _ k => XS.ifNo X102.here hx rfl (hb hby at_147) rfl ((if0 _ _).trans (tlt (by decide : ((0 : Int32) < (4 : Int32)))).2.2.2) k) ?_
    refine own_st (fun _ k => XS.aload X102.here hx rfl (hb hby at_150) rfl rfl k) ?_
    refine own_st (fun _ k => XS.aload X102.here hx rfl (hb hby at_152) rfl rfl k) ?_
    refine own_st (fun _ k => XS.iconst X102.here hx rfl (hb hby at_154) k) ?_
    show own_Go _ _ _ _ (T102.setTop (mkF m 155 #[.val (.int u0), .val (.long u1), .second, .val (.long u2), .second, .val (.long (own_inv (-7046029254386353131 : Int64))), .second, .val (.int (4 : Int32)), .val (.int ((((u0.toUInt32 >>> ((14 : Int32) &&& 31).toUInt32).toInt32) &&& (7 : Int32)) - ((((u0.toUInt32 >>> ((14 : Int32) &&& 31).toUInt32).toInt32) &&& (7 : Int32)) / (5 : Int32)) * (5 : Int32))), .val (.ref b81), .val (.ref b92), .val (.ref b101), .unset, .unset, .unset, .unset, .unset] [(.int (0 : Int32)), (.ref b81), (.ref b101)]))
    obtain ⟨cl196, Ar196, -, Sz196, Nn196, Hs196, -⟩ := id z102_V_b81
    have hin196 : ¬ ((0 : Int32) < 0 ∨ cl196.slots.size ≤ ((0 : Int32)).toNatClampNeg) := inb_of Sz196 ⟨(by decide : ¬ ((0 : Int32) < (0 : Int32))), (by decide : (0 : Int32) < (5 : Int32))⟩
    have hat196 : cl196.slots[((0 : Int32)).toNatClampNeg]? = some (.long (own_kf u0 u1 0)) := Hs196.at hin196 rfl
    refine own_st (X102.laload hx (j := (0 : Int32)) (v := (.long (own_kf u0 u1 0))) Ar196.1 (State.isArrayOf_alike hZ.alike Ar196.2.1) Ar196.2.2 hin196 hat196 (g := (mkF m 155 #[.val (.int u0), .val (.long u1), .second, .val (.long u2), .second, .val (.long (own_inv (-7046029254386353131 : Int64))), .second, .val (.int (4 : Int32)), .val (.int ((((u0.toUInt32 >>> ((14 : Int32) &&& 31).toUInt32).toInt32) &&& (7 : Int32)) - ((((u0.toUInt32 >>> ((14 : Int32) &&& 31).toUInt32).toInt32) &&& (7 : Int32)) / (5 : Int32)) * (5 : Int32))), .val (.ref b81), .val (.ref b92), .val (.ref b101), .unset, .unset, .unset, .unset, .unset] [(.int (0 : Int32)), (.ref b81), (.ref b101)])) rfl rfl (hb hby at_155)) ?_
    refine own_st (fun _ k => XS.aload X102.here hx rfl (hb hby at_156) rfl rfl k) ?_
    refine own_st (fun _ k => XS.iconst X102.here hx rfl (hb hby at_158) k) ?_
    show own_Go _ _ _ _ (T102.setTop (mkF m 159 #[.val (.int u0), .val (.long u1), .second, .val (.long u2), .second, .val (.long (own_inv (-7046029254386353131 : Int64))), .second, .val (.int (4 : Int32)), .val (.int ((((u0.toUInt32 >>> ((14 : Int32) &&& 31).toUInt32).toInt32) &&& (7 : Int32)) - ((((u0.toUInt32 >>> ((14 : Int32) &&& 31).toUInt32).toInt32) &&& (7 : Int32)) / (5 : Int32)) * (5 : Int32))), .val (.ref b81), .val (.ref b92), .val (.ref b101), .unset, .unset, .unset, .unset, .unset] [(.int (0 : Int32)), (.ref b92), (.long (own_kf u0 u1 0)), (.ref b101)]))
    obtain ⟨cl197, Ar197, -, Sz197, Nn197, Hs197, -⟩ := id z102_V_b92
    have hin197 : ¬ ((0 : Int32) < 0 ∨ cl197.slots.size ≤ ((0 : Int32)).toNatClampNeg) := inb_of Sz197 ⟨(by decide : ¬ ((0 : Int32) < (0 : Int32))), (by decide : (0 : Int32) < (4 : Int32))⟩
    have hat197 : cl197.slots[((0 : Int32)).toNatClampNeg]? = some (.long (own_vf u2 0)) := Hs197.at hin197 rfl
    refine own_st (X102.laload hx (j := (0 : Int32)) (v := (.long (own_vf u2 0))) Ar197.1 (State.isArrayOf_alike hZ.alike Ar197.2.1) Ar197.2.2 hin197 hat197 (g := (mkF m 159 #[.val (.int u0), .val (.long u1), .second, .val (.long u2), .second, .val (.long (own_inv (-7046029254386353131 : Int64))), .second, .val (.int (4 : Int32)), .val (.int ((((u0.toUInt32 >>> ((14 : Int32) &&& 31).toUInt32).toInt32) &&& (7 : Int32)) - ((((u0.toUInt32 >>> ((14 : Int32) &&& 31).toUInt32).toInt32) &&& (7 : Int32)) / (5 : Int32)) * (5 : Int32))), .val (.ref b81), .val (.ref b92), .val (.ref b101), .unset, .unset, .unset, .unset, .unset] [(.int (0 : Int32)), (.ref b92), (.long (own_kf u0 u1 0)), (.ref b101)])) rfl rfl (hb hby at_159)) ?_
    show own_Go _ _ _ _ (T102.setTop (mkF m 160 #[.val (.int u0), .val (.long u1), .second, .val (.long u2), .second, .val (.long (own_inv (-7046029254386353131 : Int64))), .second, .val (.int (4 : Int32)), .val (.int ((((u0.toUInt32 >>> ((14 : Int32) &&& 31).toUInt32).toInt32) &&& (7 : Int32)) - ((((u0.toUInt32 >>> ((14 : Int32) &&& 31).toUInt32).toInt32) &&& (7 : Int32)) / (5 : Int32)) * (5 : Int32))), .val (.ref b81), .val (.ref b92), .val (.ref b101), .unset, .unset, .unset, .unset, .unset] [(.long (own_vf u2 0)), (.long (own_kf u0 u1 0)), (.ref b101)]))
    obtain ⟨cq198, kq198, q198a, q198b, q198c⟩ := isOf hZ rfl z102_E_b101
    obtain ⟨_, _, ⟨T198, L198, k198, n198⟩, -, X198, ⟨Lc198, hQ198, l198, y198, z198⟩, st198⟩ := X102.virtualBack hx (y := (⟨"quillvax/store/LongMap", "put", "(JJ)V"⟩ : MethodName)) (z := (⟨"quillvax/store/LongMap", "put", "(JJ)V"⟩ : MethodName)) hown (mvT hZ (hw _ (List.mem_of_getElem? (i := 53) rfl))) (mvT hZ (hw _ (List.mem_of_getElem? (i := 54) rfl))) (notFace_of_selects (args := #[]) (mvT hZ (hw _ (List.mem_of_getElem? (i := 56) rfl)))) (mvT hZ (hw _ (List.mem_of_getElem? (i := 56) rfl))) (mvT hZ (hw _ (List.mem_of_getElem? (i := 55) rfl))) (by decide) (backOf (W := 0) (rm11 l Z a0 hw [] b101 ka102 wa102 kk102 kw102 own_z own_z (own_kf u0 u1 0) (own_vf u2 0) r0 (0 : Int32) T102.heap n0 Z102 z102_E_b101 Fq102_keys Fq102_values Fq102_slotBits Fq102_size Vk102 Vw102 gnb101 gnka102 gnwa102 neb101_ka102 neb101_wa102 nk102 f0 (fun q => own_vnz u2 0 (by decide) ((lw_eq _ _).mp q)) z0 (by decide)) hZ (hw _ (List.mem_of_getElem? (i := 57) rfl)) (hw _ (List.mem_of_getElem? (i := 16) rfl)) (by decide) (by decide)) q198a q198c (g := (mkF m 160 #[.val (.int u0), .val (.long u1), .second, .val (.long u2), .second, .val (.long (own_inv (-7046029254386353131 : Int64))), .second, .val (.int (4 : Int32)), .val (.int ((((u0.toUInt32 >>> ((14 : Int32) &&& 31).toUInt32).toInt32) &&& (7 : Int32)) - ((((u0.toUInt32 >>> ((14 : Int32) &&& 31).toUInt32).toInt32) &&& (7 : Int32)) / (5 : Int32)) * (5 : Int32))), .val (.ref b81), .val (.ref b92), .val (.ref b101), .unset, .unset, .unset, .unset, .unset] [(.long (own_vf u2 0)), (.long (own_kf u0 u1 0)), (.ref b101)])) rfl (by rw [hml]; rfl) (Steps.refl _) (argsL := [(.long (own_kf u0 u1 0)), (.long (own_vf u2 0))]) (rest := []) (lenOf own_pd8 rfl) rfl (by show 2 * 0 + _ ≤ _; exact Nat.le_of_eq rfl) (hb hby at_160) (fun _ _ => ⟨rfl, rfl, (by decide : 5 + 0 ≤ _), (by decide : 45 + 0 ≤ _)⟩)
    dsimp only [Pt.U, Pt.locs, Pt.cells, Pt.slots] at X198 l198 y198 z198 st198 hQ198
    rw [l198, y198, z198] at X198
    obtain ⟨rfl, Nq198, Kq198, Eq198, Fq198_keys, Fq198_values, Fq198_slotBits, Fq198_size, Vk198, Vw198⟩ := hQ198
    have N198 := Fr.app N102 Nq198
    refine own_tr st198 ?_
    have z198_V_b81 := z102_V_b81.keep Kq198 (ninS neb81_b101 (ninS neb81_ka102 (ninS neb81_wa102 nin0)))
    have z198_V_b92 := z102_V_b92.keep Kq198 (ninS neb92_b101 (ninS neb92_ka102 (ninS neb92_wa102 nin0)))
    have z198_E_b101 := z102_E_b101.keep Kq198
    have Z198 : n0 ≤ T198.heap.size := Nat.le_trans Z102 Kq198.1
    have Kk198 : Keep h0 T198.heap [] := Kk102.trans Kq198 (allS (Or.inr gkb101) (allS (Or.inr gkka102) (allS (Or.inr gkwa102) all0)))
    have Fz198 : Fld Z T198.heap b101 "quillvax/store/LongMap" "size" "I" (.int (1 : Int32)) := Fq198_size
    refine own_st (fun _ k => XS.iload X198.here hx rfl (hb hby at_163) rfl k) ?_
    refine own_st (fun _ k => XS.iconst X198.here hx rfl (hb hby at_165) k) ?_
    show own_Go _ _ _ _ (T198.setTop (mkF m 166 #[.val (.int u0), .val (.long u1), .second, .val (.long u2), .second, .val (.long (own_inv (-7046029254386353131 : Int64))), .second, .val (.int (4 : Int32)), .val (.int ((((u0.toUInt32 >>> ((14 : Int32) &&& 31).toUInt32).toInt32) &&& (7 : Int32)) - ((((u0.toUInt32 >>> ((14 : Int32) &&& 31).toUInt32).toInt32) &&& (7 : Int32)) / (5 : Int32)) * (5 : Int32))), .val (.ref b81), .val (.ref b92), .val (.ref b101), .unset, .unset, .unset, .unset, .unset] [(.int (1 : Int32)), (.int (4 : Int32))]))
    refine own_st (fun _ k => XS.icmpNo X198.here hx rfl (hb hby at_166) rfl (tlt (by decide : ((1 : Int32) < (4 : Int32)))).2.2.2 k) ?_
    refine own_st (fun _ k => XS.aload X198.here hx rfl (hb hby at_169) rfl rfl k) ?_
    refine own_st (fun _ k => XS.aload X198.here hx rfl (hb hby at_171) rfl rfl k) ?_
    refine own_st (fun _ k => XS.iconst X198.here hx rfl (hb hby at_173) k) ?_
    show own_Go _ _ _ _ (T198.setTop (mkF m 174 #[.val (.int u0), .val (.long u1), .second, .val (.long u2), .second, .val (.long (own_inv (-7046029254386353131 : Int64))), .second, .val (.int (4 : Int32)), .val (.int ((((u0.toUInt32 >>> ((14 : Int32) &&& 31).toUInt32).toInt32) &&& (7 : Int32)) - ((((u0.toUInt32 >>> ((14 : Int32) &&& 31).toUInt32).toInt32) &&& (7 : Int32)) / (5 : Int32)) * (5 : Int32))), .val (.ref b81), .val (.ref b92), .val (.ref b101), .unset, .unset, .unset, .unset, .unset] [(.int (1 : Int32)), (.ref b81), (.ref b101)]))
    obtain ⟨cl199, Ar199, -, Sz199, Nn199, Hs199, -⟩ := id z198_V_b81
    have hin199 : ¬ ((1 : Int32) < 0 ∨ cl199.slots.size ≤ ((1 : Int32)).toNatClampNeg) := inb_of Sz199 ⟨(by decide : ¬ ((1 : Int32) < (0 : Int32))), (by decide : (1 : Int32) < (5 : Int32))⟩
    have hat199 : cl199.slots[((1 : Int32)).toNatClampNeg]? = some (.long (own_kf u0 u1 1)) := Hs199.at hin199 rfl
    refine own_st (X198.laload hx (j := (1 : Int32)) (v := (.long (own_kf u0 u1 1))) Ar199.1 (State.isArrayOf_alike hZ.alike Ar199.2.1) Ar199.2.2 hin199 hat199 (g := (mkF m 174 #[.val (.int u0), .val (.long u1), .second, .val (.long u2), .second, .val (.long (own_inv (-7046029254386353131 : Int64))), .second, .val (.int (4 : Int32)), .val (.int ((((u0.toUInt32 >>> ((14 : Int32) &&& 31).toUInt32).toInt32) &&& (7 : Int32)) - ((((u0.toUInt32 >>> ((14 : Int32) &&& 31).toUInt32).toInt32) &&& (7 : Int32)) / (5 : Int32)) * (5 : Int32))), .val (.ref b81), .val (.ref b92), .val (.ref b101), .unset, .unset, .unset, .unset, .unset] [(.int (1 : Int32)), (.ref b81), (.ref b101)])) rfl rfl (hb hby at_174)) ?_
    refine own_st (fun _ k => XS.aload X198.here hx rfl (hb hby at_175) rfl rfl k) ?_
    refine own_st (fun _ k => XS.iconst X198.here hx rfl (hb hby at_177) k) ?_
    show own_Go _ _ _ _ (T198.setTop (mkF m 178 #[.val (.int u0), .val (.long u1), .second, .val (.long u2), .second, .val (.long (own_inv (-7046029254386353131 : Int64))), .second, .val (.int (4 : Int32)), .val (.int ((((u0.toUInt32 >>> ((14 : Int32) &&& 31).toUInt32).toInt32) &&& (7 : Int32)) - ((((u0.toUInt32 >>> ((14 : Int32) &&& 31).toUInt32).toInt32) &&& (7 : Int32)) / (5 : Int32)) * (5 : Int32))), .val (.ref b81), .val (.ref b92), .val (.ref b101), .unset, .unset, .unset, .unset, .unset] [(.int (1 : Int32)), (.ref b92), (.long (own_kf u0 u1 1)), (.ref b101)]))
    obtain ⟨cl200, Ar200, -, Sz200, Nn200, Hs200, -⟩ := id z198_V_b92
    have hin200 : ¬ ((1 : Int32) < 0 ∨ cl200.slots.size ≤ ((1 : Int32)).toNatClampNeg) := inb_of Sz200 ⟨(by decide : ¬ ((1 : Int32) < (0 : Int32))), (by decide : (1 : Int32) < (4 : Int32))⟩
    have hat200 : cl200.slots[((1 : Int32)).toNatClampNeg]? = some (.long (own_vf u2 1)) := Hs200.at hin200 rfl
    refine own_st (X198.laload hx (j := (1 : Int32)) (v := (.long (own_vf u2 1))) Ar200.1 (State.isArrayOf_alike hZ.alike Ar200.2.1) Ar200.2.2 hin200 hat200 (g := (mkF m 178 #[.val (.int u0), .val (.long u1), .second, .val (.long u2), .second, .val (.long (own_inv (-7046029254386353131 : Int64))), .second, .val (.int (4 : Int32)), .val (.int ((((u0.toUInt32 >>> ((14 : Int32) &&& 31).toUInt32).toInt32) &&& (7 : Int32)) - ((((u0.toUInt32 >>> ((14 : Int32) &&& 31).toUInt32).toInt32) &&& (7 : Int32)) / (5 : Int32)) * (5 : Int32))), .val (.ref b81), .val (.ref b92), .val (.ref b101), .unset, .unset, .unset, .unset, .unset] [(.int (1 : Int32)), (.ref b92), (.long (own_kf u0 u1 1)), (.ref b101)])) rfl rfl (hb hby at_178)) ?_
    show own_Go _ _ _ _ (T198.setTop (mkF m 179 #[.val (.int u0), .val (.long u1), .second, .val (.long u2), .second, .val (.long (own_inv (-7046029254386353131 : Int64))), .second, .val (.int (4 : Int32)), .val (.int ((((u0.toUInt32 >>> ((14 : Int32) &&& 31).toUInt32).toInt32) &&& (7 : Int32)) - ((((u0.toUInt32 >>> ((14 : Int32) &&& 31).toUInt32).toInt32) &&& (7 : Int32)) / (5 : Int32)) * (5 : Int32))), .val (.ref b81), .val (.ref b92), .val (.ref b101), .unset, .unset, .unset, .unset, .unset] [(.long (own_vf u2 1)), (.long (own_kf u0 u1 1)), (.ref b101)]))
    obtain ⟨cq201, kq201, q201a, q201b, q201c⟩ := isOf hZ rfl z198_E_b101
    obtain ⟨_, _, ⟨T201, L201, k201, n201⟩, -, X201, ⟨Lc201, hQ201, l201, y201, z201⟩, st201⟩ := X198.virtualBack hx (y := (⟨"quillvax/store/LongMap", "put", "(JJ)V"⟩ : MethodName)) (z := (⟨"quillvax/store/LongMap", "put", "(JJ)V"⟩ : MethodName)) hown (mvT hZ (hw _ (List.mem_of_getElem? (i := 53) rfl))) (mvT hZ (hw _ (List.mem_of_getElem? (i := 54) rfl))) (notFace_of_selects (args := #[]) (mvT hZ (hw _ (List.mem_of_getElem? (i := 56) rfl)))) (mvT hZ (hw _ (List.mem_of_getElem? (i := 56) rfl))) (mvT hZ (hw _ (List.mem_of_getElem? (i := 55) rfl))) (by decide) (backOf (W := 0) (rm11 l Z a0 hw [] b101 ka102 wa102 kk102 kw102 (own_upd own_z r0 (own_kf u0 u1 0)) (own_upd own_z r0 (own_vf u2 0)) (own_kf u0 u1 1) (own_vf u2 1) r1 (1 : Int32) T198.heap n0 Z198 z198_E_b101 Fq198_keys Fq198_values Fq198_slotBits Fz198 Vk198 Vw198 gnb101 gnka102 gnwa102 neb101_ka102 neb101_wa102 nk102 f1 (fun q => own_vnz u2 1 (by decide) ((lw_eq _ _).mp q)) z1 (by decide)) hZ (hw _ (List.mem_of_getElem? (i := 57) rfl)) (hw _ (List.mem_of_getElem? (i := 16) rfl)) (by decide) (by decide)) q201a q201c (g := (mkF m 179 #[.val (.int u0), .val (.long u1), .second, .val (.long u2), .second, .val (.long (own_inv (-7046029254386353131 : Int64))), .second, .val (.int (4 : Int32)), .val (.int ((((u0.toUInt32 >>> ((14 : Int32) &&& 31).toUInt32).toInt32) &&& (7 : Int32)) - ((((u0.toUInt32 >>> ((14 : Int32) &&& 31).toUInt32).toInt32) &&& (7 : Int32)) / (5 : Int32)) * (5 : Int32))), .val (.ref b81), .val (.ref b92), .val (.ref b101), .unset, .unset, .unset, .unset, .unset] [(.long (own_vf u2 1)), (.long (own_kf u0 u1 1)), (.ref b101)])) rfl (by rw [hml]; rfl) (Steps.refl _) (argsL := [(.long (own_kf u0 u1 1)), (.long (own_vf u2 1))]) (rest := []) (lenOf own_pd8 rfl) rfl (by show 2 * 0 + _ ≤ _; exact Nat.le_of_eq rfl) (hb hby at_179) (fun _ _ => ⟨rfl, rfl, (by decide : 5 + 0 ≤ _), (by decide : 45 + 0 ≤ _)⟩)
    dsimp only [Pt.U, Pt.locs, Pt.cells, Pt.slots] at X201 l201 y201 z201 st201 hQ201
    rw [l201, y201, z201] at X201
    obtain ⟨rfl, Nq201, Kq201, Eq201, Fq201_keys, Fq201_values, Fq201_slotBits, Fq201_size, Vk201, Vw201⟩ := hQ201
    have N201 := Fr.app N198 Nq201
    refine own_tr st201 ?_
    have z201_V_b81 := z198_V_b81.keep Kq201 (ninS neb81_b101 (ninS neb81_ka102 (ninS neb81_wa102 nin0)))
    have z201_V_b92 := z198_V_b92.keep Kq201 (ninS neb92_b101 (ninS neb92_ka102 (ninS neb92_wa102 nin0)))
    have z201_E_b101 := z198_E_b101.keep Kq201
    have Z201 : n0 ≤ T201.heap.size := Nat.le_trans Z198 Kq201.1
    have Kk201 : Keep h0 T201.heap [] := Kk198.trans Kq201 (allS (Or.inr gkb101) (allS (Or.inr gkka102) (allS (Or.inr gkwa102) all0)))
    have Fz201 : Fld Z T201.heap b101 "quillvax/store/LongMap" "size" "I" (.int (2 : Int32)) := Fq201_size
    refine own_st (fun _ k => XS.iload X201.here hx rfl (hb hby at_182) rfl k) ?_
    refine own_st (fun _ k => XS.iconst X201.here hx rfl (hb hby at_184) k) ?_
    show own_Go _ _ _ _ (T201.setTop (mkF m 185 #[.val (.int u0), .val (.long u1), .second, .val (.long u2), .second, .val (.long (own_inv (-7046029254386353131 : Int64))), .second, .val (.int (4 : Int32)), .val (.int ((((u0.toUInt32 >>> ((14 : Int32) &&& 31).toUInt32).toInt32) &&& (7 : Int32)) - ((((u0.toUInt32 >>> ((14 : Int32) &&& 31).toUInt32).toInt32) &&& (7 : Int32)) / (5 : Int32)) * (5 : Int32))), .val (.ref b81), .val (.ref b92), .val (.ref b101), .unset, .unset, .unset, .unset, .unset] [(.int (2 : Int32)), (.int (4 : Int32))]))
    refine own_st (fun _ k => XS.icmpNo X201.here hx rfl (hb hby at_185) rfl (tlt (by decide : ((2 : Int32) < (4 : Int32)))).2.2.2 k) ?_
    refine own_st (fun _ k => XS.aload X201.here hx rfl (hb hby at_188) rfl rfl k) ?_
    refine own_st (fun _ k => XS.aload X201.here hx rfl (hb hby at_190) rfl rfl k) ?_
    refine own_st (fun _ k => XS.iconst X201.here hx rfl (hb hby at_192) k) ?_
    show own_Go _ _ _ _ (T201.setTop (mkF m 193 #[.val (.int u0), .val (.long u1), .second, .val (.long u2), .second, .val (.long (own_inv (-7046029254386353131 : Int64))), .second, .val (.int (4 : Int32)), .val (.int ((((u0.toUInt32 >>> ((14 : Int32) &&& 31).toUInt32).toInt32) &&& (7 : Int32)) - ((((u0.toUInt32 >>> ((14 : Int32) &&& 31).toUInt32).toInt32) &&& (7 : Int32)) / (5 : Int32)) * (5 : Int32))), .val (.ref b81), .val (.ref b92), .val (.ref b101), .unset, .unset, .unset, .unset, .unset] [(.int (2 : Int32)), (.ref b81), (.ref b101)]))
    obtain ⟨cl202, Ar202, -, Sz202, Nn202, Hs202, -⟩ := id z201_V_b81
    have hin202 : ¬ ((2 : Int32) < 0 ∨ cl202.slots.size ≤ ((2 : Int32)).toNatClampNeg) := inb_of Sz202 ⟨(by decide : ¬ ((2 : Int32) < (0 : Int32))), (by decide : (2 : Int32) < (5 : Int32))⟩
    have hat202 : cl202.slots[((2 : Int32)).toNatClampNeg]? = some (.long (own_kf u0 u1 2)) := Hs202.at hin202 rfl
    refine own_st (X201.laload hx (j := (2 : Int32)) (v := (.long (own_kf u0 u1 2))) Ar202.1 (State.isArrayOf_alike hZ.alike Ar202.2.1) Ar202.2.2 hin202 hat202 (g := (mkF m 193 #[.val (.int u0), .val (.long u1), .second, .val (.long u2), .second, .val (.long (own_inv (-7046029254386353131 : Int64))), .second, .val (.int (4 : Int32)), .val (.int ((((u0.toUInt32 >>> ((14 : Int32) &&& 31).toUInt32).toInt32) &&& (7 : Int32)) - ((((u0.toUInt32 >>> ((14 : Int32) &&& 31).toUInt32).toInt32) &&& (7 : Int32)) / (5 : Int32)) * (5 : Int32))), .val (.ref b81), .val (.ref b92), .val (.ref b101), .unset, .unset, .unset, .unset, .unset] [(.int (2 : Int32)), (.ref b81), (.ref b101)])) rfl rfl (hb hby at_193)) ?_
    refine own_st (fun _ k => XS.aload X201.here hx rfl (hb hby at_194) rfl rfl k) ?_
    refine own_st (fun _ k => XS.iconst X201.here hx rfl (hb hby at_196) k) ?_
    show own_Go _ _ _ _ (T201.setTop (mkF m 197 #[.val (.int u0), .val (.long u1), .second, .val (.long u2), .second, .val (.long (own_inv (-7046029254386353131 : Int64))), .second, .val (.int (4 : Int32)), .val (.int ((((u0.toUInt32 >>> ((14 : Int32) &&& 31).toUInt32).toInt32) &&& (7 : Int32)) - ((((u0.toUInt32 >>> ((14 : Int32) &&& 31).toUInt32).toInt32) &&& (7 : Int32)) / (5 : Int32)) * (5 : Int32))), .val (.ref b81), .val (.ref b92), .val (.ref b101), .unset, .unset, .unset, .unset, .unset] [(.int (2 : Int32)), (.ref b92), (.long (own_kf u0 u1 2)), (.ref b101)]))
    obtain ⟨cl203, Ar203, -, Sz203, Nn203, Hs203, -⟩ := id z201_V_b92
    have hin203 : ¬ ((2 : Int32) < 0 ∨ cl203.slots.size ≤ ((2 : Int32)).toNatClampNeg) := inb_of Sz203 ⟨(by decide : ¬ ((2 : Int32) < (0 : Int32))), (by decide : (2 : Int32) < (4 : Int32))⟩
    have hat203 : cl203.slots[((2 : Int32)).toNatClampNeg]? = some (.long (own_vf u2 2)) := Hs203.at hin203 rfl
    refine own_st (X201.laload hx (j := (2 : Int32)) (v := (.long (own_vf u2 2))) Ar203.1 (State.isArrayOf_alike hZ.alike Ar203.2.1) Ar203.2.2 hin203 hat203 (g := (mkF m 197 #[.val (.int u0), .val (.long u1), .second, .val (.long u2), .second, .val (.long (own_inv (-7046029254386353131 : Int64))), .second, .val (.int (4 : Int32)), .val (.int ((((u0.toUInt32 >>> ((14 : Int32) &&& 31).toUInt32).toInt32) &&& (7 : Int32)) - ((((u0.toUInt32 >>> ((14 : Int32) &&& 31).toUInt32).toInt32) &&& (7 : Int32)) / (5 : Int32)) * (5 : Int32))), .val (.ref b81), .val (.ref b92), .val (.ref b101), .unset, .unset, .unset, .unset, .unset] [(.int (2 : Int32)), (.ref b92), (.long (own_kf u0 u1 2)), (.ref b101)])) rfl rfl (hb hby at_197)) ?_
    show own_Go _ _ _ _ (T201.setTop (mkF m 198 #[.val (.int u0), .val (.long u1), .second, .val (.long u2), .second, .val (.long (own_inv (-7046029254386353131 : Int64))), .second, .val (.int (4 : Int32)), .val (.int ((((u0.toUInt32 >>> ((14 : Int32) &&& 31).toUInt32).toInt32) &&& (7 : Int32)) - ((((u0.toUInt32 >>> ((14 : Int32) &&& 31).toUInt32).toInt32) &&& (7 : Int32)) / (5 : Int32)) * (5 : Int32))), .val (.ref b81), .val (.ref b92), .val (.ref b101), .unset, .unset, .unset, .unset, .unset] [(.long (own_vf u2 2)), (.long (own_kf u0 u1 2)), (.ref b101)]))
    obtain ⟨cq204, kq204, q204a, q204b, q204c⟩ := isOf hZ rfl z201_E_b101
    obtain ⟨_, _, ⟨T204, L204, k204, n204⟩, -, X204, ⟨Lc204, hQ204, l204, y204, z204⟩, st204⟩ := X201.virtualBack hx (y := (⟨"quillvax/store/LongMap", "put", "(JJ)V"⟩ : MethodName)) (z := (⟨"quillvax/store/LongMap", "put", "(JJ)V"⟩ : MethodName)) hown (mvT hZ (hw _ (List.mem_of_getElem? (i := 53) rfl))) (mvT hZ (hw _ (List.mem_of_getElem? (i := 54) rfl))) (notFace_of_selects (args := #[]) (mvT hZ (hw _ (List.mem_of_getElem? (i := 56) rfl)))) (mvT hZ (hw _ (List.mem_of_getElem? (i := 56) rfl))) (mvT hZ (hw _ (List.mem_of_getElem? (i := 55) rfl))) (by decide) (backOf (W := 0) (rm11 l Z a0 hw [] b101 ka102 wa102 kk102 kw102 (own_upd (own_upd own_z r0 (own_kf u0 u1 0)) r1 (own_kf u0 u1 1)) (own_upd (own_upd own_z r0 (own_vf u2 0)) r1 (own_vf u2 1)) (own_kf u0 u1 2) (own_vf u2 2) r2 (2 : Int32) T201.heap n0 Z201 z201_E_b101 Fq201_keys Fq201_values Fq201_slotBits Fz201 Vk201 Vw201 gnb101 gnka102 gnwa102 neb101_ka102 neb101_wa102 nk102 f2 (fun q => own_vnz u2 2 (by decide) ((lw_eq _ _).mp q)) z2 (by decide)) hZ (hw _ (List.mem_of_getElem? (i := 57) rfl)) (hw _ (List.mem_of_getElem? (i := 16) rfl)) (by decide) (by decide)) q204a q204c (g := (mkF m 198 #[.val (.int u0), .val (.long u1), .second, .val (.long u2), .second, .val (.long (own_inv (-7046029254386353131 : Int64))), .second, .val (.int (4 : Int32)), .val (.int ((((u0.toUInt32 >>> ((14 : Int32) &&& 31).toUInt32).toInt32) &&& (7 : Int32)) - ((((u0.toUInt32 >>> ((14 : Int32) &&& 31).toUInt32).toInt32) &&& (7 : Int32)) / (5 : Int32)) * (5 : Int32))), .val (.ref b81), .val (.ref b92), .val (.ref b101), .unset, .unset, .unset, .unset, .unset] [(.long (own_vf u2 2)), (.long (own_kf u0 u1 2)), (.ref b101)])) rfl (by rw [hml]; rfl) (Steps.refl _) (argsL := [(.long (own_kf u0 u1 2)), (.long (own_vf u2 2))]) (rest := []) (lenOf own_pd8 rfl) rfl (by show 2 * 0 + _ ≤ _; exact Nat.le_of_eq rfl) (hb hby at_198) (fun _ _ => ⟨rfl, rfl, (by decide : 5 + 0 ≤ _), (by decide : 45 + 0 ≤ _)⟩)
    dsimp only [Pt.U, Pt.locs, Pt.cells, Pt.slots] at X204 l204 y204 z204 st204 hQ204
    rw [l204, y204, z204] at X204
    obtain ⟨rfl, Nq204, Kq204, Eq204, Fq204_keys, Fq204_values, Fq204_slotBits, Fq204_size, Vk204, Vw204⟩ := hQ204
    have N204 := Fr.app N201 Nq204
    refine own_tr st204 ?_
    have z204_V_b81 := z201_V_b81.keep Kq204 (ninS neb81_b101 (ninS neb81_ka102 (ninS neb81_wa102 nin0)))
    have z204_V_b92 := z201_V_b92.keep Kq204 (ninS neb92_b101 (ninS neb92_ka102 (ninS neb92_wa102 nin0)))
    have z204_E_b101 := z201_E_b101.keep Kq204
    have Z204 : n0 ≤ T204.heap.size := Nat.le_trans Z201 Kq204.1
    have Kk204 : Keep h0 T204.heap [] := Kk201.trans Kq204 (allS (Or.inr gkb101) (allS (Or.inr gkka102) (allS (Or.inr gkwa102) all0)))
    have Fz204 : Fld Z T204.heap b101 "quillvax/store/LongMap" "size" "I" (.int (3 : Int32)) := Fq204_size
    refine own_st (fun _ k => XS.iload X204.here hx rfl (hb hby at_201) rfl k) ?_
    refine own_st (fun _ k => XS.iconst X204.here hx rfl (hb hby at_203) k) ?_
    show own_Go _ _ _ _ (T204.setTop (mkF m 204 #[.val (.int u0), .val (.long u1), .second, .val (.long u2), .second, .val (.long (own_inv (-7046029254386353131 : Int64))), .second, .val (.int (4 : Int32)), .val (.int ((((u0.toUInt32 >>> ((14 : Int32) &&& 31).toUInt32).toInt32) &&& (7 : Int32)) - ((((u0.toUInt32 >>> ((14 : Int32) &&& 31).toUInt32).toInt32) &&& (7 : Int32)) / (5 : Int32)) * (5 : Int32))), .val (.ref b81), .val (.ref b92), .val (.ref b101), .unset, .unset, .unset, .unset, .unset] [(.int (3 : Int32)), (.int (4 : Int32))]))
    refine own_st (fun _ k => XS.icmpNo X204.here hx rfl (hb hby at_204) rfl (tlt (by decide : ((3 : Int32) < (4 : Int32)))).2.2.2 k) ?_
    refine own_st (fun _ k => XS.aload X204.here hx rfl (hb hby at_207) rfl rfl k) ?_
    refine own_st (fun _ k => XS.aload X204.here hx rfl (hb hby at_209) rfl rfl k) ?_
    refine own_st (fun _ k => XS.iconst X204.here hx rfl (hb hby at_211) k) ?_
    show own_Go _ _ _ _ (T204.setTop (mkF m 212 #[.val (.int u0), .val (.long u1), .second, .val (.long u2), .second, .val (.long (own_inv (-7046029254386353131 : Int64))), .second, .val (.int (4 : Int32)), .val (.int ((((u0.toUInt32 >>> ((14 : Int32) &&& 31).toUInt32).toInt32) &&& (7 : Int32)) - ((((u0.toUInt32 >>> ((14 : Int32) &&& 31).toUInt32).toInt32) &&& (7 : Int32)) / (5 : Int32)) * (5 : Int32))), .val (.ref b81), .val (.ref b92), .val (.ref b101), .unset, .unset, .unset, .unset, .unset] [(.int (3 : Int32)), (.ref b81), (.ref b101)]))
    obtain ⟨cl205, Ar205, -, Sz205, Nn205, Hs205, -⟩ := id z204_V_b81
    have hin205 : ¬ ((3 : Int32) < 0 ∨ cl205.slots.size ≤ ((3 : Int32)).toNatClampNeg) := inb_of Sz205 ⟨(by decide : ¬ ((3 : Int32) < (0 : Int32))), (by decide : (3 : Int32) < (5 : Int32))⟩
    have hat205 : cl205.slots[((3 : Int32)).toNatClampNeg]? = some (.long (own_kf u0 u1 3)) := Hs205.at hin205 rfl
    refine own_st (X204.laload hx (j := (3 : Int32)) (v := (.long (own_kf u0 u1 3))) Ar205.1 (State.isArrayOf_alike hZ.alike Ar205.2.1) Ar205.2.2 hin205 hat205 (g := (mkF m 212 #[.val (.int u0), .val (.long u1), .second, .val (.long u2), .second, .val (.long (own_inv (-7046029254386353131 : Int64))), .second, .val (.int (4 : Int32)), .val (.int ((((u0.toUInt32 >>> ((14 : Int32) &&& 31).toUInt32).toInt32) &&& (7 : Int32)) - ((((u0.toUInt32 >>> ((14 : Int32) &&& 31).toUInt32).toInt32) &&& (7 : Int32)) / (5 : Int32)) * (5 : Int32))), .val (.ref b81), .val (.ref b92), .val (.ref b101), .unset, .unset, .unset, .unset, .unset] [(.int (3 : Int32)), (.ref b81), (.ref b101)])) rfl rfl (hb hby at_212)) ?_
    refine own_st (fun _ k => XS.aload X204.here hx rfl (hb hby at_213) rfl rfl k) ?_
    refine own_st (fun _ k => XS.iconst X204.here hx rfl (hb hby at_215) k) ?_
    show own_Go _ _ _ _ (T204.setTop (mkF m 216 #[.val (.int u0), .val (.long u1), .second, .val (.long u2), .second, .val (.long (own_inv (-7046029254386353131 : Int64))), .second, .val (.int (4 : Int32)), .val (.int ((((u0.toUInt32 >>> ((14 : Int32) &&& 31).toUInt32).toInt32) &&& (7 : Int32)) - ((((u0.toUInt32 >>> ((14 : Int32) &&& 31).toUInt32).toInt32) &&& (7 : Int32)) / (5 : Int32)) * (5 : Int32))), .val (.ref b81), .val (.ref b92), .val (.ref b101), .unset, .unset, .unset, .unset, .unset] [(.int (3 : Int32)), (.ref b92), (.long (own_kf u0 u1 3)), (.ref b101)]))
    obtain ⟨cl206, Ar206, -, Sz206, Nn206, Hs206, -⟩ := id z204_V_b92
    have hin206 : ¬ ((3 : Int32) < 0 ∨ cl206.slots.size ≤ ((3 : Int32)).toNatClampNeg) := inb_of Sz206 ⟨(by decide : ¬ ((3 : Int32) < (0 : Int32))), (by decide : (3 : Int32) < (4 : Int32))⟩
    have hat206 : cl206.slots[((3 : Int32)).toNatClampNeg]? = some (.long (own_vf u2 3)) := Hs206.at hin206 rfl
    refine own_st (X204.laload hx (j := (3 : Int32)) (v := (.long (own_vf u2 3))) Ar206.1 (State.isArrayOf_alike hZ.alike Ar206.2.1) Ar206.2.2 hin206 hat206 (g := (mkF m 216 #[.val (.int u0), .val (.long u1), .second, .val (.long u2), .second, .val (.long (own_inv (-7046029254386353131 : Int64))), .second, .val (.int (4 : Int32)), .val (.int ((((u0.toUInt32 >>> ((14 : Int32) &&& 31).toUInt32).toInt32) &&& (7 : Int32)) - ((((u0.toUInt32 >>> ((14 : Int32) &&& 31).toUInt32).toInt32) &&& (7 : Int32)) / (5 : Int32)) * (5 : Int32))), .val (.ref b81), .val (.ref b92), .val (.ref b101), .unset, .unset, .unset, .unset, .unset] [(.int (3 : Int32)), (.ref b92), (.long (own_kf u0 u1 3)), (.ref b101)])) rfl rfl (hb hby at_216)) ?_
    show own_Go _ _ _ _ (T204.setTop (mkF m 217 #[.val (.int u0), .val (.long u1), .second, .val (.long u2), .second, .val (.long (own_inv (-7046029254386353131 : Int64))), .second, .val (.int (4 : Int32)), .val (.int ((((u0.toUInt32 >>> ((14 : Int32) &&& 31).toUInt32).toInt32) &&& (7 : Int32)) - ((((u0.toUInt32 >>> ((14 : Int32) &&& 31).toUInt32).toInt32) &&& (7 : Int32)) / (5 : Int32)) * (5 : Int32))), .val (.ref b81), .val (.ref b92), .val (.ref b101), .unset, .unset, .unset, .unset, .unset] [(.long (own_vf u2 3)), (.long (own_kf u0 u1 3)), (.ref b101)]))
    obtain ⟨cq207, kq207, q207a, q207b, q207c⟩ := isOf hZ rfl z204_E_b101
    obtain ⟨_, _, ⟨T207, L207, k207, n207⟩, -, X207, ⟨Lc207, hQ207, l207, y207, z207⟩, st207⟩ := X204.virtualBack hx (y := (⟨"quillvax/store/LongMap", "put", "(JJ)V"⟩ : MethodName)) (z := (⟨"quillvax/store/LongMap", "put", "(JJ)V"⟩ : MethodName)) hown (mvT hZ (hw _ (List.mem_of_getElem? (i := 53) rfl))) (mvT hZ (hw _ (List.mem_of_getElem? (i := 54) rfl))) (notFace_of_selects (args := #[]) (mvT hZ (hw _ (List.mem_of_getElem? (i := 56) rfl)))) (mvT hZ (hw _ (List.mem_of_getElem? (i := 56) rfl))) (mvT hZ (hw _ (List.mem_of_getElem? (i := 55) rfl))) (by decide) (backOf (W := 0) (rm11 l Z a0 hw [] b101 ka102 wa102 kk102 kw102 (own_upd (own_upd (own_upd own_z r0 (own_kf u0 u1 0)) r1 (own_kf u0 u1 1)) r2 (own_kf u0 u1 2)) (own_upd (own_upd (own_upd own_z r0 (own_vf u2 0)) r1 (own_vf u2 1)) r2 (own_vf u2 2)) (own_kf u0 u1 3) (own_vf u2 3) r3 (3 : Int32) T204.heap n0 Z204 z204_E_b101 Fq204_keys Fq204_values Fq204_slotBits Fz204 Vk204 Vw204 gnb101 gnka102 gnwa102 neb101_ka102 neb101_wa102 nk102 f3 (fun q => own_vnz u2 3 (by decide) ((lw_eq _ _).mp q)) z3 (by decide)) hZ (hw _ (List.mem_of_getElem? (i := 57) rfl)) (hw _ (List.mem_of_getElem? (i := 16) rfl)) (by decide) (by decide)) q207a q207c (g := (mkF m 217 #[.val (.int u0), .val (.long u1), .second, .val (.long u2), .second, .val (.long (own_inv (-7046029254386353131 : Int64))), .second, .val (.int (4 : Int32)), .val (.int ((((u0.toUInt32 >>> ((14 : Int32) &&& 31).toUInt32).toInt32) &&& (7 : Int32)) - ((((u0.toUInt32 >>> ((14 : Int32) &&& 31).toUInt32).toInt32) &&& (7 : Int32)) / (5 : Int32)) * (5 : Int32))), .val (.ref b81), .val (.ref b92), .val (.ref b101), .unset, .unset, .unset, .unset, .unset] [(.long (own_vf u2 3)), (.long (own_kf u0 u1 3)), (.ref b101)])) rfl (by rw [hml]; rfl) (Steps.refl _) (argsL := [(.long (own_kf u0 u1 3)), (.long (own_vf u2 3))]) (rest := []) (lenOf own_pd8 rfl) rfl (by show 2 * 0 + _ ≤ _; exact Nat.le_of_eq rfl) (hb hby at_217) (fun _ _ => ⟨rfl, rfl, (by decide : 5 + 0 ≤ _), (by decide : 45 + 0 ≤ _)⟩)
    dsimp only [Pt.U, Pt.locs, Pt.cells, Pt.slots] at X207 l207 y207 z207 st207 hQ207
    rw [l207, y207, z207] at X207
    obtain ⟨rfl, Nq207, Kq207, Eq207, Fq207_keys, Fq207_values, Fq207_slotBits, Fq207_size, Vk207, Vw207⟩ := hQ207
    have N207 := Fr.app N204 Nq207
    refine own_tr st207 ?_
    have z207_V_b81 := z204_V_b81.keep Kq207 (ninS neb81_b101 (ninS neb81_ka102 (ninS neb81_wa102 nin0)))
    have z207_V_b92 := z204_V_b92.keep Kq207 (ninS neb92_b101 (ninS neb92_ka102 (ninS neb92_wa102 nin0)))
    have z207_E_b101 := z204_E_b101.keep Kq207
    have Z207 : n0 ≤ T207.heap.size := Nat.le_trans Z204 Kq207.1
    have Kk207 : Keep h0 T207.heap [] := Kk204.trans Kq207 (allS (Or.inr gkb101) (allS (Or.inr gkka102) (allS (Or.inr gkwa102) all0)))
    have Fz207 : Fld Z T207.heap b101 "quillvax/store/LongMap" "size" "I" (.int (4 : Int32)) := Fq207_size
    have VkN : Arv Z T207.heap ka102 kk102 .long (16 : Int32) (own_vs KN) (.long (0 : Int64)) := eKN ▸ Vk207
    have VwN : Arv Z T207.heap wa102 kw102 .long (16 : Int32) (own_vs WN) (.long (0 : Int64)) := eWN ▸ Vw207
    show own_Go _ _ _ _ (T207.setTop (mkF m 220 #[.val (.int u0), .val (.long u1), .second, .val (.long u2), .second, .val (.long (own_inv (-7046029254386353131 : Int64))), .second, .val (.int (4 : Int32)), .val (.int ((((u0.toUInt32 >>> ((14 : Int32) &&& 31).toUInt32).toInt32) &&& (7 : Int32)) - ((((u0.toUInt32 >>> ((14 : Int32) &&& 31).toUInt32).toInt32) &&& (7 : Int32)) / (5 : Int32)) * (5 : Int32))), .val (.ref b81), .val (.ref b92), .val (.ref b101), .unset, .unset, .unset, .unset, .unset] []))
    rcases own_n5 ((u0.toUInt32 >>> ((14 : Int32) &&& 31).toUInt32).toInt32) with hs208 | hs208 | hs208 | hs208 | hs208
    · skip
      rw [hs208]
      have HT := own_H4 u0 u1 u2
      obtain ⟨ts, tq, es, er, eg0, eg1, eg2, eg3⟩ := own_chkE (own_c40 _ (own_offN u0 0).1 _ (own_offN u0 1).1 _ (own_offN u0 2).1 _ (own_offN u0 3).1)
      have ess : ts = tt := Option.some.inj (es.symm.trans etN)
      rw [ess] at er
      obtain ⟨rr, KR, WR, rf, rz, rm, RQ⟩ := own_stepR HT RR4 (n := 4) (a := 0) (by decide) (by decide) er
      obtain ⟨g0, gf0, ga0_, gb0_⟩ := own_stepG HT RQ (q := 0) (by decide) eg0
      obtain ⟨g1, gf1, ga1_, gb1_⟩ := own_stepG HT RQ (q := 1) (by decide) eg1
      obtain ⟨g2, gf2, ga2_, gb2_⟩ := own_stepG HT RQ (q := 2) (by decide) eg2
      obtain ⟨g3, gf3, ga3_, gb3_⟩ := own_stepG HT RQ (q := 3) (by decide) eg3
      show own_Go _ _ _ _ (T207.setTop (mkF m 220 #[.val (.int u0), .val (.long u1), .second, .val (.long u2), .second, .val (.long (own_inv (-7046029254386353131 : Int64))), .second, .val (.int (4 : Int32)), .val (.int (0 : Int32)), .val (.ref b81), .val (.ref b92), .val (.ref b101), .unset, .unset, .unset, .unset, .unset] []))
      refine own_st (fun _ k => XS.iload X207.here hx rfl (hb hby at_220) rfl k) ?_
      refine own_st (fun _ k => XS.iload X207.here hx rfl (hb hby at_222) rfl k) ?_
      show own_Go _ _ _ _ (T207.setTop (mkF m 224 #[.val (.int u0), .val (.long u1), .second, .val (.long u2), .second, .val (.long (own_inv (-7046029254386353131 : Int64))), .second, .val (.int (4 : Int32)), .val (.int (0 : Int32)), .val (.ref b81), .val (.ref b92), .val (.ref b101), .unset, .unset, .unset, .unset, .unset] [(.int (4 : Int32)), (.int (0 : Int32))]))
      refine own_st (fun _ k => XS.icmpNo X207.here hx rfl (hb hby at_224) rfl (tlt (by decide : ((0 : Int32) < (4 : Int32)))).2.1 k) ?_
      refine own_st (fun _ k => XS.aload X207.here hx rfl (hb hby at_227) rfl rfl k) ?_
      refine own_st (fun _ k => XS.iload X207.here hx rfl (hb hby at_229) rfl k) ?_
      show own_Go _ _ _ _ (T207.setTop (mkF m 231 #[.val (.int u0), .val (.long u1), .second, .val (.long u2), .second, .val (.long (own_inv (-7046029254386353131 : Int64))), .second, .val (.int (4 : Int32)), .val (.int (0 : Int32)), .val (.ref b81), .val (.ref b92), .val (.ref b101), .unset, .unset, .unset, .unset, .unset] [(.int (0 : Int32)), (.ref b92)]))
      obtain ⟨cl209, Ar209, -, Sz209, Nn209, Hs209, -⟩ := id z207_V_b92
      have hin209 : ¬ ((0 : Int32) < 0 ∨ cl209.slots.size ≤ ((0 : Int32)).toNatClampNeg) := inb_of Sz209 ⟨(by decide : ¬ ((0 : Int32) < (0 : Int32))), (by decide : (0 : Int32) < (4 : Int32))⟩
      have hat209 : cl209.slots[((0 : Int32)).toNatClampNeg]? = some (.long (own_vf u2 0)) := Hs209.at hin209 rfl
      refine own_st (X207.laload hx (j := (0 : Int32)) (v := (.long (own_vf u2 0))) Ar209.1 (State.isArrayOf_alike hZ.alike Ar209.2.1) Ar209.2.2 hin209 hat209 (g := (mkF m 231 #[.val (.int u0), .val (.long u1), .second, .val (.long u2), .second, .val (.long (own_inv (-7046029254386353131 : Int64))), .second, .val (.int (4 : Int32)), .val (.int (0 : Int32)), .val (.ref b81), .val (.ref b92), .val (.ref b101), .unset, .unset, .unset, .unset, .unset] [(.int (0 : Int32)), (.ref b92)])) rfl rfl (hb hby at_231)) ?_
      refine own_st (fun _ k => XS.goto X207.here hx rfl (pc0 := 232) (pc' := 236) rfl (hb hby at_232) (by decide) (by decide) k) ?_
      refine own_st (fun _ k => XS.lstore X207.here hx rfl (hb hby at_236) rfl (l' := #[.val (.int u0), .val (.long u1), .second, .val (.long u2), .second, .val (.long (own_inv (-7046029254386353131 : Int64))), .second, .val (.int (4 : Int32)), .val (.int (0 : Int32)), .val (.ref b81), .val (.ref b92), .val (.ref b101), .val (.long (own_vf u2 0)), .second, .unset, .unset, .unset]) rfl k) ?_
      refine own_st (fun _ k => XS.aload X207.here hx rfl (hb hby at_238) rfl rfl k) ?_
      refine own_st (fun _ k => XS.aload X207.here hx rfl (hb hby at_240) rfl rfl k) ?_
      refine own_st (fun _ k => XS.iload X207.here hx rfl (hb hby at_242) rfl k) ?_
      show own_Go _ _ _ _ (T207.setTop (mkF m 244 #[.val (.int u0), .val (.long u1), .second, .val (.long u2), .second, .val (.long (own_inv (-7046029254386353131 : Int64))), .second, .val (.int (4 : Int32)), .val (.int (0 : Int32)), .val (.ref b81), .val (.ref b92), .val (.ref b101), .val (.long (own_vf u2 0)), .second, .unset, .unset, .unset] [(.int (0 : Int32)), (.ref b81), (.ref b101)]))
      obtain ⟨cl210, Ar210, -, Sz210, Nn210, Hs210, -⟩ := id z207_V_b81
      have hin210 : ¬ ((0 : Int32) < 0 ∨ cl210.slots.size ≤ ((0 : Int32)).toNatClampNeg) := inb_of Sz210 ⟨(by decide : ¬ ((0 : Int32) < (0 : Int32))), (by decide : (0 : Int32) < (5 : Int32))⟩
      have hat210 : cl210.slots[((0 : Int32)).toNatClampNeg]? = some (.long (own_kf u0 u1 0)) := Hs210.at hin210 rfl
      refine own_st (X207.laload hx (j := (0 : Int32)) (v := (.long (own_kf u0 u1 0))) Ar210.1 (State.isArrayOf_alike hZ.alike Ar210.2.1) Ar210.2.2 hin210 hat210 (g := (mkF m 244 #[.val (.int u0), .val (.long u1), .second, .val (.long u2), .second, .val (.long (own_inv (-7046029254386353131 : Int64))), .second, .val (.int (4 : Int32)), .val (.int (0 : Int32)), .val (.ref b81), .val (.ref b92), .val (.ref b101), .val (.long (own_vf u2 0)), .second, .unset, .unset, .unset] [(.int (0 : Int32)), (.ref b81), (.ref b101)])) rfl rfl (hb hby at_244)) ?_
      show own_Go _ _ _ _ (T207.setTop (mkF m 245 #[.val (.int u0), .val (.long u1), .second, .val (.long u2), .second, .val (.long (own_inv (-7046029254386353131 : Int64))), .second, .val (.int (4 : Int32)), .val (.int (0 : Int32)), .val (.ref b81), .val (.ref b92), .val (.ref b101), .val (.long (own_vf u2 0)), .second, .unset, .unset, .unset] [(.long (own_kf u0 u1 0)), (.ref b101)]))
      obtain ⟨cq211, kq211, q211a, q211b, q211c⟩ := isOf hZ rfl z207_E_b101
      obtain ⟨_, _, ⟨T211, L211, k211, n211⟩, -, X211, ⟨Lc211, hQ211, l211, y211, z211⟩, st211⟩ := X207.virtualBack hx (y := (⟨"quillvax/store/LongMap", "remove", "(J)J"⟩ : MethodName)) (z := (⟨"quillvax/store/LongMap", "remove", "(J)J"⟩ : MethodName)) hown (mvT hZ (hw _ (List.mem_of_getElem? (i := 34) rfl))) (mvT hZ (hw _ (List.mem_of_getElem? (i := 35) rfl))) (notFace_of_selects (args := #[]) (mvT hZ (hw _ (List.mem_of_getElem? (i := 37) rfl)))) (mvT hZ (hw _ (List.mem_of_getElem? (i := 37) rfl))) (mvT hZ (hw _ (List.mem_of_getElem? (i := 36) rfl))) (by decide) (backOf (W := 0) (rm7 l Z a0 hw [] b101 ka102 wa102 kk102 kw102 KN WN (own_kf u0 u1 0) rr KR WR (4 : Int32) T207.heap n0 Z207 z207_E_b101 Fq207_keys Fq207_values Fq207_slotBits Fz207 VkN VwN gnb101 gnka102 gnwa102 neb101_ka102 neb101_wa102 nk102 rf (by rw [rz]; exact own_vnz u2 0 (by decide)) rm) hZ (hw _ (List.mem_of_getElem? (i := 38) rfl)) (hw _ (List.mem_of_getElem? (i := 16) rfl)) (by decide) (by decide)) q211a q211c (g := (mkF m 245 #[.val (.int u0), .val (.long u1), .second, .val (.long u2), .second, .val (.long (own_inv (-7046029254386353131 : Int64))), .second, .val (.int (4 : Int32)), .val (.int (0 : Int32)), .val (.ref b81), .val (.ref b92), .val (.ref b101), .val (.long (own_vf u2 0)), .second, .unset, .unset, .unset] [(.long (own_kf u0 u1 0)), (.ref b101)])) rfl (by rw [hml]; rfl) (Steps.refl _) (argsL := [(.long (own_kf u0 u1 0))]) (rest := []) (lenOf own_pd0 rfl) rfl (by show 2 * 0 + _ ≤ _; exact Nat.le_of_eq rfl) (hb hby at_245) (fun _ _ => ⟨rfl, rfl, (by decide : 5 + 0 ≤ _), (by decide : 45 + 0 ≤ _)⟩)
      dsimp only [Pt.U, Pt.locs, Pt.cells, Pt.slots] at X211 l211 y211 z211 st211 hQ211
      rw [l211, y211, z211] at X211
      obtain ⟨rfl, Nq211, Kq211, Eq211, Fq211_keys, Fq211_values, Fq211_slotBits, Vk211, Vw211⟩ := hQ211
      have N211 := Fr.app N207 Nq211
      refine own_tr st211 ?_
      have z211_V_b81 := z207_V_b81.keep Kq211 (ninS neb81_b101 (ninS neb81_ka102 (ninS neb81_wa102 nin0)))
      have z211_V_b92 := z207_V_b92.keep Kq211 (ninS neb92_b101 (ninS neb92_ka102 (ninS neb92_wa102 nin0)))
      have z211_E_b101 := z207_E_b101.keep Kq211
      have Z211 : n0 ≤ T211.heap.size := Nat.le_trans Z207 Kq211.1
      have Kk211 : Keep h0 T211.heap [] := Kk207.trans Kq211 (allS (Or.inr gkb101) (allS (Or.inr gkka102) (allS (Or.inr gkwa102) all0)))
      refine own_st (fun _ k => XS.lstore X211.here hx rfl (hb hby at_248) rfl (l' := #[.val (.int u0), .val (.long u1), .second, .val (.long u2), .second, .val (.long (own_inv (-7046029254386353131 : Int64))), .second, .val (.int (4 : Int32)), .val (.int (0 : Int32)), .val (.ref b81), .val (.ref b92), .val (.ref b101), .val (.long (own_vf u2 0)), .second, .val (.long (WN rr)), .second, .unset]) rfl k) ?_
      refine own_st (fun _ k => XS.lload X211.here hx rfl (hb hby at_250) rfl k) ?_
      refine own_st (fun _ k => XS.lload X211.here hx rfl (hb hby at_252) rfl k) ?_
      show own_Go _ _ _ _ (T211.setTop (mkF m 254 #[.val (.int u0), .val (.long u1), .second, .val (.long u2), .second, .val (.long (own_inv (-7046029254386353131 : Int64))), .second, .val (.int (4 : Int32)), .val (.int (0 : Int32)), .val (.ref b81), .val (.ref b92), .val (.ref b101), .val (.long (own_vf u2 0)), .second, .val (.long (WN rr)), .second, .unset] [(.long (own_vf u2 0)), (.long (WN rr))]))
      refine own_st (fun _ k => XS.lcmp X211.here hx rfl (hb hby at_254) rfl k) ?_
      show own_Go _ _ _ _ (T211.setTop (mkF m 255 #[.val (.int u0), .val (.long u1), .second, .val (.long u2), .second, .val (.long (own_inv (-7046029254386353131 : Int64))), .second, .val (.int (4 : Int32)), .val (.int (0 : Int32)), .val (.ref b81), .val (.ref b92), .val (.ref b101), .val (.long (own_vf u2 0)), .second, .val (.long (WN rr)), .second, .unset] [(.int (lcmpW (WN rr) (own_vf u2 0)))]))
      refine own_st (fun _ k => XS.ifNo X211.here hx rfl (hb hby at_255) rfl ((if0 _ _).trans (teq ((lw_eq _ _).mpr rz)).2) k) ?_
      refine own_st (fun _ k => XS.iconst X211.here hx rfl (hb hby at_258) k) ?_
      refine own_st (fun _ k => XS.goto X211.here hx rfl (pc0 := 259) (pc' := 263) rfl (hb hby at_259) (by decide) (by decide) k) ?_
      refine own_st (fun _ k => XS.istore X211.here hx rfl (hb hby at_263) rfl (l' := #[.val (.int u0), .val (.long u1), .second, .val (.long u2), .second, .val (.long (own_inv (-7046029254386353131 : Int64))), .second, .val (.int (4 : Int32)), .val (.int (0 : Int32)), .val (.ref b81), .val (.ref b92), .val (.ref b101), .val (.long (own_vf u2 0)), .second, .val (.long (WN rr)), .second, .val (.int (1 : Int32))]) rfl k) ?_
      show own_Go _ _ _ _ (T211.setTop (mkF m 265 #[.val (.int u0), .val (.long u1), .second, .val (.long u2), .second, .val (.long (own_inv (-7046029254386353131 : Int64))), .second, .val (.int (4 : Int32)), .val (.int (0 : Int32)), .val (.ref b81), .val (.ref b92), .val (.ref b101), .val (.long (own_vf u2 0)), .second, .val (.long (WN rr)), .second, .val (.int (1 : Int32))] []))
      refine TAIL _ _ _ _ _ _ g0 g1 g2 g3 _ _ _ _ X211 rfl Vk211 Vw211 z211_E_b101 Fq211_keys Fq211_values Fq211_slotBits z211_V_b81 z211_V_b92 N211 Z211 gf0 (by rw [if_pos (by decide), if_pos rfl]; exact ga0_ (by decide)) gf1 (by rw [if_pos (by decide), if_neg (by decide)]; exact gb1_ (by decide)) gf2 (by rw [if_pos (by decide), if_neg (by decide)]; exact gb2_ (by decide)) gf3 (by rw [if_pos (by decide), if_neg (by decide)]; exact gb3_ (by decide)) ?_
      intro TM lcM XM NM
      show own_Go _ _ _ _ (TM.setTop (mkF m 446 #[.val (.int u0), .val (.long u1), .second, .val (.long u2), .second, .val (.long (own_inv (-7046029254386353131 : Int64))), .second, .val (.int (4 : Int32)), .val (.int (0 : Int32)), .val (.ref b81), .val (.ref b92), .val (.ref b101), .val (.long (own_vf u2 0)), .second, .val (.long (WN rr)), .second, .val (.int (1 : Int32))] [(.int (1 : Int32))]))
      obtain ⟨fs, hr, hrun, hended, hW, hsame⟩ := XM.leave (v := some (.int (1 : Int32))) (fun h => by rw [Bd.returns] at h; cases h)
      refine own_out (retN XM hx (t := .boolean) Bd.returns (by simp) (hb hby at_446) hr) ⟨hrun, hended, _, _, rfl, ?_, ⟨_, rfl⟩, hW, hsame.mono (by decide) (by decide)⟩
      show Q0 Z u0 u1 u2 h0 n0 _ TM.heap _
      exact ⟨rfl, NM⟩
    · skip
      rw [hs208]
      have HT := own_H4 u0 u1 u2
      obtain ⟨ts, tq, es, er, eg0, eg1, eg2, eg3⟩ := own_chkE (own_c41 _ (own_offN u0 0).1 _ (own_offN u0 1).1 _ (own_offN u0 2).1 _ (own_offN u0 3).1)
      have ess : ts = tt := Option.some.inj (es.symm.trans etN)
      rw [ess] at er
      obtain ⟨rr, KR, WR, rf, rz, rm, RQ⟩ := own_stepR HT RR4 (n := 4) (a := 1) (by decide) (by decide) er
      obtain ⟨g0, gf0, ga0_, gb0_⟩ := own_stepG HT RQ (q := 0) (by decide) eg0
      obtain ⟨g1, gf1, ga1_, gb1_⟩ := own_stepG HT RQ (q := 1) (by decide) eg1
      obtain ⟨g2, gf2, ga2_, gb2_⟩ := own_stepG HT RQ (q := 2) (by decide) eg2
      obtain ⟨g3, gf3, ga3_, gb3_⟩ := own_stepG HT RQ (q := 3) (by decide) eg3
      show own_Go _ _ _ _ (T207.setTop (mkF m 220 #[.val (.int u0), .val (.long u1), .second, .val (.long u2), .second, .val (.long (own_inv (-7046029254386353131 : Int64))), .second, .val (.int (4 : Int32)), .val (.int (1 : Int32)), .val (.ref b81), .val (.ref b92), .val (.ref b101), .unset, .unset, .unset, .unset, .unset] []))
      refine own_st (fun _ k => XS.iload X207.here hx rfl (hb hby at_220) rfl k) ?_
      refine own_st (fun _ k => XS.iload X207.here hx rfl (hb hby at_222) rfl k) ?_
      show own_Go _ _ _ _ (T207.setTop (mkF m 224 #[.val (.int u0), .val (.long u1), .second, .val (.long u2), .second, .val (.long (own_inv (-7046029254386353131 : Int64))), .second, .val (.int (4 : Int32)), .val (.int (1 : Int32)), .val (.ref b81), .val (.ref b92), .val (.ref b101), .unset, .unset, .unset, .unset, .unset] [(.int (4 : Int32)), (.int (1 : Int32))]))
      refine own_st (fun _ k => XS.icmpNo X207.here hx rfl (hb hby at_224) rfl (tlt (by decide : ((1 : Int32) < (4 : Int32)))).2.1 k) ?_
      refine own_st (fun _ k => XS.aload X207.here hx rfl (hb hby at_227) rfl rfl k) ?_
      refine own_st (fun _ k => XS.iload X207.here hx rfl (hb hby at_229) rfl k) ?_
      show own_Go _ _ _ _ (T207.setTop (mkF m 231 #[.val (.int u0), .val (.long u1), .second, .val (.long u2), .second, .val (.long (own_inv (-7046029254386353131 : Int64))), .second, .val (.int (4 : Int32)), .val (.int (1 : Int32)), .val (.ref b81), .val (.ref b92), .val (.ref b101), .unset, .unset, .unset, .unset, .unset] [(.int (1 : Int32)), (.ref b92)]))
      obtain ⟨cl212, Ar212, -, Sz212, Nn212, Hs212, -⟩ := id z207_V_b92
      have hin212 : ¬ ((1 : Int32) < 0 ∨ cl212.slots.size ≤ ((1 : Int32)).toNatClampNeg) := inb_of Sz212 ⟨(by decide : ¬ ((1 : Int32) < (0 : Int32))), (by decide : (1 : Int32) < (4 : Int32))⟩
      have hat212 : cl212.slots[((1 : Int32)).toNatClampNeg]? = some (.long (own_vf u2 1)) := Hs212.at hin212 rfl
      refine own_st (X207.laload hx (j := (1 : Int32)) (v := (.long (own_vf u2 1))) Ar212.1 (State.isArrayOf_alike hZ.alike Ar212.2.1) Ar212.2.2 hin212 hat212 (g := (mkF m 231 #[.val (.int u0), .val (.long u1), .second, .val (.long u2), .second, .val (.long (own_inv (-7046029254386353131 : Int64))), .second, .val (.int (4 : Int32)), .val (.int (1 : Int32)), .val (.ref b81), .val (.ref b92), .val (.ref b101), .unset, .unset, .unset, .unset, .unset] [(.int (1 : Int32)), (.ref b92)])) rfl rfl (hb hby at_231)) ?_
      refine own_st (fun _ k => XS.goto X207.here hx rfl (pc0 := 232) (pc' := 236) rfl (hb hby at_232) (by decide) (by decide) k) ?_
      refine own_st (fun _ k => XS.lstore X207.here hx rfl (hb hby at_236) rfl (l' := #[.val (.int u0), .val (.long u1), .second, .val (.long u2), .second, .val (.long (own_inv (-7046029254386353131 : Int64))), .second, .val (.int (4 : Int32)), .val (.int (1 : Int32)), .val (.ref b81), .val (.ref b92), .val (.ref b101), .val (.long (own_vf u2 1)), .second, .unset, .unset, .unset]) rfl k) ?_
      refine own_st (fun _ k => XS.aload X207.here hx rfl (hb hby at_238) rfl rfl k) ?_
      refine own_st (fun _ k => XS.aload X207.here hx rfl (hb hby at_240) rfl rfl k) ?_
      refine own_st (fun _ k => XS.iload X207.here hx rfl (hb hby at_242) rfl k) ?_
      show own_Go _ _ _ _ (T207.setTop (mkF m 244 #[.val (.int u0), .val (.long u1), .second, .val (.long u2), .second, .val (.long (own_inv (-7046029254386353131 : Int64))), .second, .val (.int (4 : Int32)), .val (.int (1 : Int32)), .val (.ref b81), .val (.ref b92), .val (.ref b101), .val (.long (own_vf u2 1)), .second, .unset, .unset, .unset] [(.int (1 : Int32)), (.ref b81), (.ref b101)]))
      obtain ⟨cl213, Ar213, -, Sz213, Nn213, Hs213, -⟩ := id z207_V_b81
      have hin213 : ¬ ((1 : Int32) < 0 ∨ cl213.slots.size ≤ ((1 : Int32)).toNatClampNeg) := inb_of Sz213 ⟨(by decide : ¬ ((1 : Int32) < (0 : Int32))), (by decide : (1 : Int32) < (5 : Int32))⟩
      have hat213 : cl213.slots[((1 : Int32)).toNatClampNeg]? = some (.long (own_kf u0 u1 1)) := Hs213.at hin213 rfl
      refine own_st (X207.laload hx (j := (1 : Int32)) (v := (.long (own_kf u0 u1 1))) Ar213.1 (State.isArrayOf_alike hZ.alike Ar213.2.1) Ar213.2.2 hin213 hat213 (g := (mkF m 244 #[.val (.int u0), .val (.long u1), .second, .val (.long u2), .second, .val (.long (own_inv (-7046029254386353131 : Int64))), .second, .val (.int (4 : Int32)), .val (.int (1 : Int32)), .val (.ref b81), .val (.ref b92), .val (.ref b101), .val (.long (own_vf u2 1)), .second, .unset, .unset, .unset] [(.int (1 : Int32)), (.ref b81), (.ref b101)])) rfl rfl (hb hby at_244)) ?_
      show own_Go _ _ _ _ (T207.setTop (mkF m 245 #[.val (.int u0), .val (.long u1), .second, .val (.long u2), .second, .val (.long (own_inv (-7046029254386353131 : Int64))), .second, .val (.int (4 : Int32)), .val (.int (1 : Int32)), .val (.ref b81), .val (.ref b92), .val (.ref b101), .val (.long (own_vf u2 1)), .second, .unset, .unset, .unset] [(.long (own_kf u0 u1 1)), (.ref b101)]))
      obtain ⟨cq214, kq214, q214a, q214b, q214c⟩ := isOf hZ rfl z207_E_b101
      obtain ⟨_, _, ⟨T214, L214, k214, n214⟩, -, X214, ⟨Lc214, hQ214, l214, y214, z214⟩, st214⟩ := X207.virtualBack hx (y := (⟨"quillvax/store/LongMap", "remove", "(J)J"⟩ : MethodName)) (z := (⟨"quillvax/store/LongMap", "remove", "(J)J"⟩ : MethodName)) hown (mvT hZ (hw _ (List.mem_of_getElem? (i := 34) rfl))) (mvT hZ (hw _ (List.mem_of_getElem? (i := 35) rfl))) (notFace_of_selects (args := #[]) (mvT hZ (hw _ (List.mem_of_getElem? (i := 37) rfl)))) (mvT hZ (hw _ (List.mem_of_getElem? (i := 37) rfl))) (mvT hZ (hw _ (List.mem_of_getElem? (i := 36) rfl))) (by decide) (backOf (W := 0) (rm7 l Z a0 hw [] b101 ka102 wa102 kk102 kw102 KN WN (own_kf u0 u1 1) rr KR WR (4 : Int32) T207.heap n0 Z207 z207_E_b101 Fq207_keys Fq207_values Fq207_slotBits Fz207 VkN VwN gnb101 gnka102 gnwa102 neb101_ka102 neb101_wa102 nk102 rf (by rw [rz]; exact own_vnz u2 1 (by decide)) rm) hZ (hw _ (List.mem_of_getElem? (i := 38) rfl)) (hw _ (List.mem_of_getElem? (i := 16) rfl)) (by decide) (by decide)) q214a q214c (g := (mkF m 245 #[.val (.int u0), .val (.long u1), .second, .val (.long u2), .second, .val (.long (own_inv (-7046029254386353131 : Int64))), .second, .val (.int (4 : Int32)), .val (.int (1 : Int32)), .val (.ref b81), .val (.ref b92), .val (.ref b101), .val (.long (own_vf u2 1)), .second, .unset, .unset, .unset] [(.long (own_kf u0 u1 1)), (.ref b101)])) rfl (by rw [hml]; rfl) (Steps.refl _) (argsL := [(.long (own_kf u0 u1 1))]) (rest := []) (lenOf own_pd0 rfl) rfl (by show 2 * 0 + _ ≤ _; exact Nat.le_of_eq rfl) (hb hby at_245) (fun _ _ => ⟨rfl, rfl, (by decide : 5 + 0 ≤ _), (by decide : 45 + 0 ≤ _)⟩)
      dsimp only [Pt.U, Pt.locs, Pt.cells, Pt.slots] at X214 l214 y214 z214 st214 hQ214
      rw [l214, y214, z214] at X214
      obtain ⟨rfl, Nq214, Kq214, Eq214, Fq214_keys, Fq214_values, Fq214_slotBits, Vk214, Vw214⟩ := hQ214
      have N214 := Fr.app N207 Nq214
      refine own_tr st214 ?_
      have z214_V_b81 := z207_V_b81.keep Kq214 (ninS neb81_b101 (ninS neb81_ka102 (ninS neb81_wa102 nin0)))
      have z214_V_b92 := z207_V_b92.keep Kq214 (ninS neb92_b101 (ninS neb92_ka102 (ninS neb92_wa102 nin0)))
      have z214_E_b101 := z207_E_b101.keep Kq214
      have Z214 : n0 ≤ T214.heap.size := Nat.le_trans Z207 Kq214.1
      have Kk214 : Keep h0 T214.heap [] := Kk207.trans Kq214 (allS (Or.inr gkb101) (allS (Or.inr gkka102) (allS (Or.inr gkwa102) all0)))
      refine own_st (fun _ k => XS.lstore X214.here hx rfl (hb hby at_248) rfl (l' := #[.val (.int u0), .val (.long u1), .second, .val (.long u2), .second, .val (.long (own_inv (-7046029254386353131 : Int64))), .second, .val (.int (4 : Int32)), .val (.int (1 : Int32)), .val (.ref b81), .val (.ref b92), .val (.ref b101), .val (.long (own_vf u2 1)), .second, .val (.long (WN rr)), .second, .unset]) rfl k) ?_
      refine own_st (fun _ k => XS.lload X214.here hx rfl (hb hby at_250) rfl k) ?_
      refine own_st (fun _ k => XS.lload X214.here hx rfl (hb hby at_252) rfl k) ?_
      show own_Go _ _ _ _ (T214.setTop (mkF m 254 #[.val (.int u0), .val (.long u1), .second, .val (.long u2), .second, .val (.long (own_inv (-7046029254386353131 : Int64))), .second, .val (.int (4 : Int32)), .val (.int (1 : Int32)), .val (.ref b81), .val (.ref b92), .val (.ref b101), .val (.long (own_vf u2 1)), .second, .val (.long (WN rr)), .second, .unset] [(.long (own_vf u2 1)), (.long (WN rr))]))
      refine own_st (fun _ k => XS.lcmp X214.here hx rfl (hb hby at_254) rfl k) ?_
      show own_Go _ _ _ _ (T214.setTop (mkF m 255 #[.val (.int u0), .val (.long u1), .second, .val (.long u2), .second, .val (.long (own_inv (-7046029254386353131 : Int64))), .second, .val (.int (4 : Int32)), .val (.int (1 : Int32)), .val (.ref b81), .val (.ref b92), .val (.ref b101), .val (.long (own_vf u2 1)), .second, .val (.long (WN rr)), .second, .unset] [(.int (lcmpW (WN rr) (own_vf u2 1)))]))
      refine own_st (fun _ k => XS.ifNo X214.here hx rfl (hb hby at_255) rfl ((if0 _ _).trans (teq ((lw_eq _ _).mpr rz)).2) k) ?_
      refine own_st (fun _ k => XS.iconst X214.here hx rfl (hb hby at_258) k) ?_
      refine own_st (fun _ k => XS.goto X214.here hx rfl (pc0 := 259) (pc' := 263) rfl (hb hby at_259) (by decide) (by decide) k) ?_
      refine own_st (fun _ k => XS.istore X214.here hx rfl (hb hby at_263) rfl (l' := #[.val (.int u0), .val (.long u1), .second, .val (.long u2), .second, .val (.long (own_inv (-7046029254386353131 : Int64))), .second, .val (.int (4 : Int32)), .val (.int (1 : Int32)), .val (.ref b81), .val (.ref b92), .val (.ref b101), .val (.long (own_vf u2 1)), .second, .val (.long (WN rr)), .second, .val (.int (1 : Int32))]) rfl k) ?_
      show own_Go _ _ _ _ (T214.setTop (mkF m 265 #[.val (.int u0), .val (.long u1), .second, .val (.long u2), .second, .val (.long (own_inv (-7046029254386353131 : Int64))), .second, .val (.int (4 : Int32)), .val (.int (1 : Int32)), .val (.ref b81), .val (.ref b92), .val (.ref b101), .val (.long (own_vf u2 1)), .second, .val (.long (WN rr)), .second, .val (.int (1 : Int32))] []))
      refine TAIL _ _ _ _ _ _ g0 g1 g2 g3 _ _ _ _ X214 rfl Vk214 Vw214 z214_E_b101 Fq214_keys Fq214_values Fq214_slotBits z214_V_b81 z214_V_b92 N214 Z214 gf0 (by rw [if_pos (by decide), if_neg (by decide)]; exact gb0_ (by decide)) gf1 (by rw [if_pos (by decide), if_pos rfl]; exact ga1_ (by decide)) gf2 (by rw [if_pos (by decide), if_neg (by decide)]; exact gb2_ (by decide)) gf3 (by rw [if_pos (by decide), if_neg (by decide)]; exact gb3_ (by decide)) ?_
      intro TM lcM XM NM
      show own_Go _ _ _ _ (TM.setTop (mkF m 446 #[.val (.int u0), .val (.long u1), .second, .val (.long u2), .second, .val (.long (own_inv (-7046029254386353131 : Int64))), .second, .val (.int (4 : Int32)), .val (.int (1 : Int32)), .val (.ref b81), .val (.ref b92), .val (.ref b101), .val (.long (own_vf u2 1)), .second, .val (.long (WN rr)), .second, .val (.int (1 : Int32))] [(.int (1 : Int32))]))
      obtain ⟨fs, hr, hrun, hended, hW, hsame⟩ := XM.leave (v := some (.int (1 : Int32))) (fun h => by rw [Bd.returns] at h; cases h)
      refine own_out (retN XM hx (t := .boolean) Bd.returns (by simp) (hb hby at_446) hr) ⟨hrun, hended, _, _, rfl, ?_, ⟨_, rfl⟩, hW, hsame.mono (by decide) (by decide)⟩
      show Q0 Z u0 u1 u2 h0 n0 _ TM.heap _
      exact ⟨rfl, NM⟩
    · skip
      rw [hs208]
      have HT := own_H4 u0 u1 u2
      obtain ⟨ts, tq, es, er, eg0, eg1, eg2, eg3⟩ := own_chkE (own_c42 _ (own_offN u0 0).1 _ (own_offN u0 1).1 _ (own_offN u0 2).1 _ (own_offN u0 3).1)
      have ess : ts = tt := Option.some.inj (es.symm.trans etN)
      rw [ess] at er
      obtain ⟨rr, KR, WR, rf, rz, rm, RQ⟩ := own_stepR HT RR4 (n := 4) (a := 2) (by decide) (by decide) er
      obtain ⟨g0, gf0, ga0_, gb0_⟩ := own_stepG HT RQ (q := 0) (by decide) eg0
      obtain ⟨g1, gf1, ga1_, gb1_⟩ := own_stepG HT RQ (q := 1) (by decide) eg1
      obtain ⟨g2, gf2, ga2_, gb2_⟩ := own_stepG HT RQ (q := 2) (by decide) eg2
      obtain ⟨g3, gf3, ga3_, gb3_⟩ := own_stepG HT RQ (q := 3) (by decide) eg3
      show own_Go _ _ _ _ (T207.setTop (mkF m 220 #[.val (.int u0), .val (.long u1), .second, .val (.long u2), .second, .val (.long (own_inv (-7046029254386353131 : Int64))), .second, .val (.int (4 : Int32)), .val (.int (2 : Int32)), .val (.ref b81), .val (.ref b92), .val (.ref b101), .unset, .unset, .unset, .unset, .unset] []))
      refine own_st (fun _ k => XS.iload X207.here hx rfl (hb hby at_220) rfl k) ?_
      refine own_st (fun _ k => XS.iload X207.here hx rfl (hb hby at_222) rfl k) ?_
      show own_Go _ _ _ _ (T207.setTop (mkF m 224 #[.val (.int u0), .val (.long u1), .second, .val (.long u2), .second, .val (.long (own_inv (-7046029254386353131 : Int64))), .second, .val (.int (4 : Int32)), .val (.int (2 : Int32)), .val (.ref b81), .val (.ref b92), .val (.ref b101), .unset, .unset, .unset, .unset, .unset] [(.int (4 : Int32)), (.int (2 : Int32))]))
      refine own_st (fun _ k => XS.icmpNo X207.here hx rfl (hb hby at_224) rfl (tlt (by decide : ((2 : Int32) < (4 : Int32)))).2.1 k) ?_
      refine own_st (fun _ k => XS.aload X207.here hx rfl (hb hby at_227) rfl rfl k) ?_
      refine own_st (fun _ k => XS.iload X207.here hx rfl (hb hby at_229) rfl k) ?_
      show own_Go _ _ _ _ (T207.setTop (mkF m 231 #[.val (.int u0), .val (.long u1), .second, .val (.long u2), .second, .val (.long (own_inv (-7046029254386353131 : Int64))), .second, .val (.int (4 : Int32)), .val (.int (2 : Int32)), .val (.ref b81), .val (.ref b92), .val (.ref b101), .unset, .unset, .unset, .unset, .unset] [(.int (2 : Int32)), (.ref b92)]))
      obtain ⟨cl215, Ar215, -, Sz215, Nn215, Hs215, -⟩ := id z207_V_b92
      have hin215 : ¬ ((2 : Int32) < 0 ∨ cl215.slots.size ≤ ((2 : Int32)).toNatClampNeg) := inb_of Sz215 ⟨(by decide : ¬ ((2 : Int32) < (0 : Int32))), (by decide : (2 : Int32) < (4 : Int32))⟩
      have hat215 : cl215.slots[((2 : Int32)).toNatClampNeg]? = some (.long (own_vf u2 2)) := Hs215.at hin215 rfl
      refine own_st (X207.laload hx (j := (2 : Int32)) (v := (.long (own_vf u2 2))) Ar215.1 (State.isArrayOf_alike hZ.alike Ar215.2.1) Ar215.2.2 hin215 hat215 (g := (mkF m 231 #[.val (.int u0), .val (.long u1), .second, .val (.long u2), .second, .val (.long (own_inv (-7046029254386353131 : Int64))), .second, .val (.int (4 : Int32)), .val (.int (2 : Int32)), .val (.ref b81), .val (.ref b92), .val (.ref b101), .unset, .unset, .unset, .unset, .unset] [(.int (2 : Int32)), (.ref b92)])) rfl rfl (hb hby at_231)) ?_
      refine own_st (fun _ k => XS.goto X207.here hx rfl (pc0 := 232) (pc' := 236) rfl (hb hby at_232) (by decide) (by decide) k) ?_
      refine own_st (fun _ k => XS.lstore X207.here hx rfl (hb hby at_236) rfl (l' := #[.val (.int u0), .val (.long u1), .second, .val (.long u2), .second, .val (.long (own_inv (-7046029254386353131 : Int64))), .second, .val (.int (4 : Int32)), .val (.int (2 : Int32)), .val (.ref b81), .val (.ref b92), .val (.ref b101), .val (.long (own_vf u2 2)), .second, .unset, .unset, .unset]) rfl k) ?_
      refine own_st (fun _ k => XS.aload X207.here hx rfl (hb hby at_238) rfl rfl k) ?_
      refine own_st (fun _ k => XS.aload X207.here hx rfl (hb hby at_240) rfl rfl k) ?_
      refine own_st (fun _ k => XS.iload X207.here hx rfl (hb hby at_242) rfl k) ?_
      show own_Go _ _ _ _ (T207.setTop (mkF m 244 #[.val (.int u0), .val (.long u1), .second, .val (.long u2), .second, .val (.long (own_inv (-7046029254386353131 : Int64))), .second, .val (.int (4 : Int32)), .val (.int (2 : Int32)), .val (.ref b81), .val (.ref b92), .val (.ref b101), .val (.long (own_vf u2 2)), .second, .unset, .unset, .unset] [(.int (2 : Int32)), (.ref b81), (.ref b101)]))
      obtain ⟨cl216, Ar216, -, Sz216, Nn216, Hs216, -⟩ := id z207_V_b81
      have hin216 : ¬ ((2 : Int32) < 0 ∨ cl216.slots.size ≤ ((2 : Int32)).toNatClampNeg) := inb_of Sz216 ⟨(by decide : ¬ ((2 : Int32) < (0 : Int32))), (by decide : (2 : Int32) < (5 : Int32))⟩
      have hat216 : cl216.slots[((2 : Int32)).toNatClampNeg]? = some (.long (own_kf u0 u1 2)) := Hs216.at hin216 rfl
      refine own_st (X207.laload hx (j := (2 : Int32)) (v := (.long (own_kf u0 u1 2))) Ar216.1 (State.isArrayOf_alike hZ.alike Ar216.2.1) Ar216.2.2 hin216 hat216 (g := (mkF m 244 #[.val (.int u0), .val (.long u1), .second, .val (.long u2), .second, .val (.long (own_inv (-7046029254386353131 : Int64))), .second, .val (.int (4 : Int32)), .val (.int (2 : Int32)), .val (.ref b81), .val (.ref b92), .val (.ref b101), .val (.long (own_vf u2 2)), .second, .unset, .unset, .unset] [(.int (2 : Int32)), (.ref b81), (.ref b101)])) rfl rfl (hb hby at_244)) ?_
      show own_Go _ _ _ _ (T207.setTop (mkF m 245 #[.val (.int u0), .val (.long u1), .second, .val (.long u2), .second, .val (.long (own_inv (-7046029254386353131 : Int64))), .second, .val (.int (4 : Int32)), .val (.int (2 : Int32)), .val (.ref b81), .val (.ref b92), .val (.ref b101), .val (.long (own_vf u2 2)), .second, .unset, .unset, .unset] [(.long (own_kf u0 u1 2)), (.ref b101)]))
      obtain ⟨cq217, kq217, q217a, q217b, q217c⟩ := isOf hZ rfl z207_E_b101
      obtain ⟨_, _, ⟨T217, L217, k217, n217⟩, -, X217, ⟨Lc217, hQ217, l217, y217, z217⟩, st217⟩ := X207.virtualBack hx (y := (⟨"quillvax/store/LongMap", "remove", "(J)J"⟩ : MethodName)) (z := (⟨"quillvax/store/LongMap", "remove", "(J)J"⟩ : MethodName)) hown (mvT hZ (hw _ (List.mem_of_getElem? (i := 34) rfl))) (mvT hZ (hw _ (List.mem_of_getElem? (i := 35) rfl))) (notFace_of_selects (args := #[]) (mvT hZ (hw _ (List.mem_of_getElem? (i := 37) rfl)))) (mvT hZ (hw _ (List.mem_of_getElem? (i := 37) rfl))) (mvT hZ (hw _ (List.mem_of_getElem? (i := 36) rfl))) (by decide) (backOf (W := 0) (rm7 l Z a0 hw [] b101 ka102 wa102 kk102 kw102 KN WN (own_kf u0 u1 2) rr KR WR (4 : Int32) T207.heap n0 Z207 z207_E_b101 Fq207_keys Fq207_values Fq207_slotBits Fz207 VkN VwN gnb101 gnka102 gnwa102 neb101_ka102 neb101_wa102 nk102 rf (by rw [rz]; exact own_vnz u2 2 (by decide)) rm) hZ (hw _ (List.mem_of_getElem? (i := 38) rfl)) (hw _ (List.mem_of_getElem? (i := 16) rfl)) (by decide) (by decide)) q217a q217c (g := (mkF m 245 #[.val (.int u0), .val (.long u1), .second, .val (.long u2), .second, .val (.long (own_inv (-7046029254386353131 : Int64))), .second, .val (.int (4 : Int32)), .val (.int (2 : Int32)), .val (.ref b81), .val (.ref b92), .val (.ref b101), .val (.long (own_vf u2 2)), .second, .unset, .unset, .unset] [(.long (own_kf u0 u1 2)), (.ref b101)])) rfl (by rw [hml]; rfl) (Steps.refl _) (argsL := [(.long (own_kf u0 u1 2))]) (rest := []) (lenOf own_pd0 rfl) rfl (by show 2 * 0 + _ ≤ _; exact Nat.le_of_eq rfl) (hb hby at_245) (fun _ _ => ⟨rfl, rfl, (by decide : 5 + 0 ≤ _), (by decide : 45 + 0 ≤ _)⟩)
      dsimp only [Pt.U, Pt.locs, Pt.cells, Pt.slots] at X217 l217 y217 z217 st217 hQ217
      rw [l217, y217, z217] at X217
      obtain ⟨rfl, Nq217, Kq217, Eq217, Fq217_keys, Fq217_values, Fq217_slotBits, Vk217, Vw217⟩ := hQ217
      have N217 := Fr.app N207 Nq217
      refine own_tr st217 ?_
      have z217_V_b81 := z207_V_b81.keep Kq217 (ninS neb81_b101 (ninS neb81_ka102 (ninS neb81_wa102 nin0)))
      have z217_V_b92 := z207_V_b92.keep Kq217 (ninS neb92_b101 (ninS neb92_ka102 (ninS neb92_wa102 nin0)))
      have z217_E_b101 := z207_E_b101.keep Kq217
      have Z217 : n0 ≤ T217.heap.size := Nat.le_trans Z207 Kq217.1
      have Kk217 : Keep h0 T217.heap [] := Kk207.trans Kq217 (allS (Or.inr gkb101) (allS (Or.inr gkka102) (allS (Or.inr gkwa102) all0)))
      refine own_st (fun _ k => XS.lstore X217.here hx rfl (hb hby at_248) rfl (l' := #[.val (.int u0), .val (.long u1), .second, .val (.long u2), .second, .val (.long (own_inv (-7046029254386353131 : Int64))), .second, .val (.int (4 : Int32)), .val (.int (2 : Int32)), .val (.ref b81), .val (.ref b92), .val (.ref b101), .val (.long (own_vf u2 2)), .second, .val (.long (WN rr)), .second, .unset]) rfl k) ?_
      refine own_st (fun _ k => XS.lload X217.here hx rfl (hb hby at_250) rfl k) ?_
      refine own_st (fun _ k => XS.lload X217.here hx rfl (hb hby at_252) rfl k) ?_
      show own_Go _ _ _ _ (T217.setTop (mkF m 254 #[.val (.int u0), .val (.long u1), .second, .val (.long u2), .second, .val (.long (own_inv (-7046029254386353131 : Int64))), .second, .val (.int (4 : Int32)), .val (.int (2 : Int32)), .val (.ref b81), .val (.ref b92), .val (.ref b101), .val (.long (own_vf u2 2)), .second, .val (.long (WN rr)), .second, .unset] [(.long (own_vf u2 2)), (.long (WN rr))]))
      refine own_st (fun _ k => XS.lcmp X217.here hx rfl (hb hby at_254) rfl k) ?_
      show own_Go _ _ _ _ (T217.setTop (mkF m 255 #[.val (.int u0), .val (.long u1), .second, .val (.long u2), .second, .val (.long (own_inv (-7046029254386353131 : Int64))), .second, .val (.int (4 : Int32)), .val (.int (2 : Int32)), .val (.ref b81), .val (.ref b92), .val (.ref b101), .val (.long (own_vf u2 2)), .second, .val (.long (WN rr)), .second, .unset] [(.int (lcmpW (WN rr) (own_vf u2 2)))]))
      refine own_st (fun _ k => XS.ifNo X217.here hx rfl (hb hby at_255) rfl ((if0 _ _).trans (teq ((lw_eq _ _).mpr rz)).2) k) ?_
      refine own_st (fun _ k => XS.iconst X217.here hx rfl (hb hby at_258) k) ?_
      refine own_st (fun _ k => XS.goto X217.here hx rfl (pc0 := 259) (pc' := 263) rfl (hb hby at_259) (by decide) (by decide) k) ?_
      refine own_st (fun _ k => XS.istore X217.here hx rfl (hb hby at_263) rfl (l' := #[.val (.int u0), .val (.long u1), .second, .val (.long u2), .second, .val (.long (own_inv (-7046029254386353131 : Int64))), .second, .val (.int (4 : Int32)), .val (.int (2 : Int32)), .val (.ref b81), .val (.ref b92), .val (.ref b101), .val (.long (own_vf u2 2)), .second, .val (.long (WN rr)), .second, .val (.int (1 : Int32))]) rfl k) ?_
      show own_Go _ _ _ _ (T217.setTop (mkF m 265 #[.val (.int u0), .val (.long u1), .second, .val (.long u2), .second, .val (.long (own_inv (-7046029254386353131 : Int64))), .second, .val (.int (4 : Int32)), .val (.int (2 : Int32)), .val (.ref b81), .val (.ref b92), .val (.ref b101), .val (.long (own_vf u2 2)), .second, .val (.long (WN rr)), .second, .val (.int (1 : Int32))] []))
      refine TAIL _ _ _ _ _ _ g0 g1 g2 g3 _ _ _ _ X217 rfl Vk217 Vw217 z217_E_b101 Fq217_keys Fq217_values Fq217_slotBits z217_V_b81 z217_V_b92 N217 Z217 gf0 (by rw [if_pos (by decide), if_neg (by decide)]; exact gb0_ (by decide)) gf1 (by rw [if_pos (by decide), if_neg (by decide)]; exact gb1_ (by decide)) gf2 (by rw [if_pos (by decide), if_pos rfl]; exact ga2_ (by decide)) gf3 (by rw [if_pos (by decide), if_neg (by decide)]; exact gb3_ (by decide)) ?_
      intro TM lcM XM NM
      show own_Go _ _ _ _ (TM.setTop (mkF m 446 #[.val (.int u0), .val (.long u1), .second, .val (.long u2), .second, .val (.long (own_inv (-7046029254386353131 : Int64))), .second, .val (.int (4 : Int32)), .val (.int (2 : Int32)), .val (.ref b81), .val (.ref b92), .val (.ref b101), .val (.long (own_vf u2 2)), .second, .val (.long (WN rr)), .second, .val (.int (1 : Int32))] [(.int (1 : Int32))]))
      obtain ⟨fs, hr, hrun, hended, hW, hsame⟩ := XM.leave (v := some (.int (1 : Int32))) (fun h => by rw [Bd.returns] at h; cases h)
      refine own_out (retN XM hx (t := .boolean) Bd.returns (by simp) (hb hby at_446) hr) ⟨hrun, hended, _, _, rfl, ?_, ⟨_, rfl⟩, hW, hsame.mono (by decide) (by decide)⟩
      show Q0 Z u0 u1 u2 h0 n0 _ TM.heap _
      exact ⟨rfl, NM⟩
    · skip
      rw [hs208]
      have HT := own_H4 u0 u1 u2
      obtain ⟨ts, tq, es, er, eg0, eg1, eg2, eg3⟩ := own_chkE (own_c43 _ (own_offN u0 0).1 _ (own_offN u0 1).1 _ (own_offN u0 2).1 _ (own_offN u0 3).1)
      have ess : ts = tt := Option.some.inj (es.symm.trans etN)
      rw [ess] at er
      obtain ⟨rr, KR, WR, rf, rz, rm, RQ⟩ := own_stepR HT RR4 (n := 4) (a := 3) (by decide) (by decide) er
      obtain ⟨g0, gf0, ga0_, gb0_⟩ := own_stepG HT RQ (q := 0) (by decide) eg0
      obtain ⟨g1, gf1, ga1_, gb1_⟩ := own_stepG HT RQ (q := 1) (by decide) eg1
      obtain ⟨g2, gf2, ga2_, gb2_⟩ := own_stepG HT RQ (q := 2) (by decide) eg2
      obtain ⟨g3, gf3, ga3_, gb3_⟩ := own_stepG HT RQ (q := 3) (by decide) eg3
      show own_Go _ _ _ _ (T207.setTop (mkF m 220 #[.val (.int u0), .val (.long u1), .second, .val (.long u2), .second, .val (.long (own_inv (-7046029254386353131 : Int64))), .second, .val (.int (4 : Int32)), .val (.int (3 : Int32)), .val (.ref b81), .val (.ref b92), .val (.ref b101), .unset, .unset, .unset, .unset, .unset] []))
      refine own_st (fun _ k => XS.iload X207.here hx rfl (hb hby at_220) rfl k) ?_
      refine own_st (fun _ k => XS.iload X207.here hx rfl (hb hby at_222) rfl k) ?_
      show own_Go _ _ _ _ (T207.setTop (mkF m 224 #[.val (.int u0), .val (.long u1), .second, .val (.long u2), .second, .val (.long (own_inv (-7046029254386353131 : Int64))), .second, .val (.int (4 : Int32)), .val (.int (3 : Int32)), .val (.ref b81), .val (.ref b92), .val (.ref b101), .unset, .unset, .unset, .unset, .unset] [(.int (4 : Int32)), (.int (3 : Int32))]))
      refine own_st (fun _ k => XS.icmpNo X207.here hx rfl (hb hby at_224) rfl (tlt (by decide : ((3 : Int32) < (4 : Int32)))).2.1 k) ?_
      refine own_st (fun _ k => XS.aload X207.here hx rfl (hb hby at_227) rfl rfl k) ?_
      refine own_st (fun _ k => XS.iload X207.here hx rfl (hb hby at_229) rfl k) ?_
      show own_Go _ _ _ _ (T207.setTop (mkF m 231 #[.val (.int u0), .val (.long u1), .second, .val (.long u2), .second, .val (.long (own_inv (-7046029254386353131 : Int64))), .second, .val (.int (4 : Int32)), .val (.int (3 : Int32)), .val (.ref b81), .val (.ref b92), .val (.ref b101), .unset, .unset, .unset, .unset, .unset] [(.int (3 : Int32)), (.ref b92)]))
      obtain ⟨cl218, Ar218, -, Sz218, Nn218, Hs218, -⟩ := id z207_V_b92
      have hin218 : ¬ ((3 : Int32) < 0 ∨ cl218.slots.size ≤ ((3 : Int32)).toNatClampNeg) := inb_of Sz218 ⟨(by decide : ¬ ((3 : Int32) < (0 : Int32))), (by decide : (3 : Int32) < (4 : Int32))⟩
      have hat218 : cl218.slots[((3 : Int32)).toNatClampNeg]? = some (.long (own_vf u2 3)) := Hs218.at hin218 rfl
      refine own_st (X207.laload hx (j := (3 : Int32)) (v := (.long (own_vf u2 3))) Ar218.1 (State.isArrayOf_alike hZ.alike Ar218.2.1) Ar218.2.2 hin218 hat218 (g := (mkF m 231 #[.val (.int u0), .val (.long u1), .second, .val (.long u2), .second, .val (.long (own_inv (-7046029254386353131 : Int64))), .second, .val (.int (4 : Int32)), .val (.int (3 : Int32)), .val (.ref b81), .val (.ref b92), .val (.ref b101), .unset, .unset, .unset, .unset, .unset] [(.int (3 : Int32)), (.ref b92)])) rfl rfl (hb hby at_231)) ?_
      refine own_st (fun _ k => XS.goto X207.here hx rfl (pc0 := 232) (pc' := 236) rfl (hb hby at_232) (by decide) (by decide) k) ?_
      refine own_st (fun _ k => XS.lstore X207.here hx rfl (hb hby at_236) rfl (l' := #[.val (.int u0), .val (.long u1), .second, .val (.long u2), .second, .val (.long (own_inv (-7046029254386353131 : Int64))), .second, .val (.int (4 : Int32)), .val (.int (3 : Int32)), .val (.ref b81), .val (.ref b92), .val (.ref b101), .val (.long (own_vf u2 3)), .second, .unset, .unset, .unset]) rfl k) ?_
      refine own_st (fun _ k => XS.aload X207.here hx rfl (hb hby at_238) rfl rfl k) ?_
      refine own_st (fun _ k => XS.aload X207.here hx rfl (hb hby at_240) rfl rfl k) ?_
      refine own_st (fun _ k => XS.iload X207.here hx rfl (hb hby at_242) rfl k) ?_
      show own_Go _ _ _ _ (T207.setTop (mkF m 244 #[.val (.int u0), .val (.long u1), .second, .val (.long u2), .second, .val (.long (own_inv (-7046029254386353131 : Int64))), .second, .val (.int (4 : Int32)), .val (.int (3 : Int32)), .val (.ref b81), .val (.ref b92), .val (.ref b101), .val (.long (own_vf u2 3)), .second, .unset, .unset, .unset] [(.int (3 : Int32)), (.ref b81), (.ref b101)]))
      obtain ⟨cl219, Ar219, -, Sz219, Nn219, Hs219, -⟩ := id z207_V_b81
      have hin219 : ¬ ((3 : Int32) < 0 ∨ cl219.slots.size ≤ ((3 : Int32)).toNatClampNeg) := inb_of Sz219 ⟨(by decide : ¬ ((3 : Int32) < (0 : Int32))), (by decide : (3 : Int32) < (5 : Int32))⟩
      have hat219 : cl219.slots[((3 : Int32)).toNatClampNeg]? = some (.long (own_kf u0 u1 3)) := Hs219.at hin219 rfl
      refine own_st (X207.laload hx (j := (3 : Int32)) (v := (.long (own_kf u0 u1 3))) Ar219.1 (State.isArrayOf_alike hZ.alike Ar219.2.1) Ar219.2.2 hin219 hat219 (g := (mkF m 244 #[.val (.int u0), .val (.long u1), .second, .val (.long u2), .second, .val (.long (own_inv (-7046029254386353131 : Int64))), .second, .val (.int (4 : Int32)), .val (.int (3 : Int32)), .val (.ref b81), .val (.ref b92), .val (.ref b101), .val (.long (own_vf u2 3)), .second, .unset, .unset, .unset] [(.int (3 : Int32)), (.ref b81), (.ref b101)])) rfl rfl (hb hby at_244)) ?_
      show own_Go _ _ _ _ (T207.setTop (mkF m 245 #[.val (.int u0), .val (.long u1), .second, .val (.long u2), .second, .val (.long (own_inv (-7046029254386353131 : Int64))), .second, .val (.int (4 : Int32)), .val (.int (3 : Int32)), .val (.ref b81), .val (.ref b92), .val (.ref b101), .val (.long (own_vf u2 3)), .second, .unset, .unset, .unset] [(.long (own_kf u0 u1 3)), (.ref b101)]))
      obtain ⟨cq220, kq220, q220a, q220b, q220c⟩ := isOf hZ rfl z207_E_b101
      obtain ⟨_, _, ⟨T220, L220, k220, n220⟩, -, X220, ⟨Lc220, hQ220, l220, y220, z220⟩, st220⟩ := X207.virtualBack hx (y := (⟨"quillvax/store/LongMap", "remove", "(J)J"⟩ : MethodName)) (z := (⟨"quillvax/store/LongMap", "remove", "(J)J"⟩ : MethodName)) hown (mvT hZ (hw _ (List.mem_of_getElem? (i := 34) rfl))) (mvT hZ (hw _ (List.mem_of_getElem? (i := 35) rfl))) (notFace_of_selects (args := #[]) (mvT hZ (hw _ (List.mem_of_getElem? (i := 37) rfl)))) (mvT hZ (hw _ (List.mem_of_getElem? (i := 37) rfl))) (mvT hZ (hw _ (List.mem_of_getElem? (i := 36) rfl))) (by decide) (backOf (W := 0) (rm7 l Z a0 hw [] b101 ka102 wa102 kk102 kw102 KN WN (own_kf u0 u1 3) rr KR WR (4 : Int32) T207.heap n0 Z207 z207_E_b101 Fq207_keys Fq207_values Fq207_slotBits Fz207 VkN VwN gnb101 gnka102 gnwa102 neb101_ka102 neb101_wa102 nk102 rf (by rw [rz]; exact own_vnz u2 3 (by decide)) rm) hZ (hw _ (List.mem_of_getElem? (i := 38) rfl)) (hw _ (List.mem_of_getElem? (i := 16) rfl)) (by decide) (by decide)) q220a q220c (g := (mkF m 245 #[.val (.int u0), .val (.long u1), .second, .val (.long u2), .second, .val (.long (own_inv (-7046029254386353131 : Int64))), .second, .val (.int (4 : Int32)), .val (.int (3 : Int32)), .val (.ref b81), .val (.ref b92), .val (.ref b101), .val (.long (own_vf u2 3)), .second, .unset, .unset, .unset] [(.long (own_kf u0 u1 3)), (.ref b101)])) rfl (by rw [hml]; rfl) (Steps.refl _) (argsL := [(.long (own_kf u0 u1 3))]) (rest := []) (lenOf own_pd0 rfl) rfl (by show 2 * 0 + _ ≤ _; exact Nat.le_of_eq rfl) (hb hby at_245) (fun _ _ => ⟨rfl, rfl, (by decide : 5 + 0 ≤ _), (by decide : 45 + 0 ≤ _)⟩)
      dsimp only [Pt.U, Pt.locs, Pt.cells, Pt.slots] at X220 l220 y220 z220 st220 hQ220
      rw [l220, y220, z220] at X220
      obtain ⟨rfl, Nq220, Kq220, Eq220, Fq220_keys, Fq220_values, Fq220_slotBits, Vk220, Vw220⟩ := hQ220
      have N220 := Fr.app N207 Nq220
      refine own_tr st220 ?_
      have z220_V_b81 := z207_V_b81.keep Kq220 (ninS neb81_b101 (ninS neb81_ka102 (ninS neb81_wa102 nin0)))
      have z220_V_b92 := z207_V_b92.keep Kq220 (ninS neb92_b101 (ninS neb92_ka102 (ninS neb92_wa102 nin0)))
      have z220_E_b101 := z207_E_b101.keep Kq220
      have Z220 : n0 ≤ T220.heap.size := Nat.le_trans Z207 Kq220.1
      have Kk220 : Keep h0 T220.heap [] := Kk207.trans Kq220 (allS (Or.inr gkb101) (allS (Or.inr gkka102) (allS (Or.inr gkwa102) all0)))
      refine own_st (fun _ k => XS.lstore X220.here hx rfl (hb hby at_248) rfl (l' := #[.val (.int u0), .val (.long u1), .second, .val (.long u2), .second, .val (.long (own_inv (-7046029254386353131 : Int64))), .second, .val (.int (4 : Int32)), .val (.int (3 : Int32)), .val (.ref b81), .val (.ref b92), .val (.ref b101), .val (.long (own_vf u2 3)), .second, .val (.long (WN rr)), .second, .unset]) rfl k) ?_
      refine own_st (fun _ k => XS.lload X220.here hx rfl (hb hby at_250) rfl k) ?_
      refine own_st (fun _ k => XS.lload X220.here hx rfl (hb hby at_252) rfl k) ?_
      show own_Go _ _ _ _ (T220.setTop (mkF m 254 #[.val (.int u0), .val (.long u1), .second, .val (.long u2), .second, .val (.long (own_inv (-7046029254386353131 : Int64))), .second, .val (.int (4 : Int32)), .val (.int (3 : Int32)), .val (.ref b81), .val (.ref b92), .val (.ref b101), .val (.long (own_vf u2 3)), .second, .val (.long (WN rr)), .second, .unset] [(.long (own_vf u2 3)), (.long (WN rr))]))
      refine own_st (fun _ k => XS.lcmp X220.here hx rfl (hb hby at_254) rfl k) ?_
      show own_Go _ _ _ _ (T220.setTop (mkF m 255 #[.val (.int u0), .val (.long u1), .second, .val (.long u2), .second, .val (.long (own_inv (-7046029254386353131 : Int64))), .second, .val (.int (4 : Int32)), .val (.int (3 : Int32)), .val (.ref b81), .val (.ref b92), .val (.ref b101), .val (.long (own_vf u2 3)), .second, .val (.long (WN rr)), .second, .unset] [(.int (lcmpW (WN rr) (own_vf u2 3)))]))
      refine own_st (fun _ k => XS.ifNo X220.here hx rfl (hb hby at_255) rfl ((if0 _ _).trans (teq ((lw_eq _ _).mpr rz)).2) k) ?_
      refine own_st (fun _ k => XS.iconst X220.here hx rfl (hb hby at_258) k) ?_
      refine own_st (fun _ k => XS.goto X220.here hx rfl (pc0 := 259) (pc' := 263) rfl (hb hby at_259) (by decide) (by decide) k) ?_
      refine own_st (fun _ k => XS.istore X220.here hx rfl (hb hby at_263) rfl (l' := #[.val (.int u0), .val (.long u1), .second, .val (.long u2), .second, .val (.long (own_inv (-7046029254386353131 : Int64))), .second, .val (.int (4 : Int32)), .val (.int (3 : Int32)), .val (.ref b81), .val (.ref b92), .val (.ref b101), .val (.long (own_vf u2 3)), .second, .val (.long (WN rr)), .second, .val (.int (1 : Int32))]) rfl k) ?_
      show own_Go _ _ _ _ (T220.setTop (mkF m 265 #[.val (.int u0), .val (.long u1), .second, .val (.long u2), .second, .val (.long (own_inv (-7046029254386353131 : Int64))), .second, .val (.int (4 : Int32)), .val (.int (3 : Int32)), .val (.ref b81), .val (.ref b92), .val (.ref b101), .val (.long (own_vf u2 3)), .second, .val (.long (WN rr)), .second, .val (.int (1 : Int32))] []))
      refine TAIL _ _ _ _ _ _ g0 g1 g2 g3 _ _ _ _ X220 rfl Vk220 Vw220 z220_E_b101 Fq220_keys Fq220_values Fq220_slotBits z220_V_b81 z220_V_b92 N220 Z220 gf0 (by rw [if_pos (by decide), if_neg (by decide)]; exact gb0_ (by decide)) gf1 (by rw [if_pos (by decide), if_neg (by decide)]; exact gb1_ (by decide)) gf2 (by rw [if_pos (by decide), if_neg (by decide)]; exact gb2_ (by decide)) gf3 (by rw [if_pos (by decide), if_pos rfl]; exact ga3_ (by decide)) ?_
      intro TM lcM XM NM
      show own_Go _ _ _ _ (TM.setTop (mkF m 446 #[.val (.int u0), .val (.long u1), .second, .val (.long u2), .second, .val (.long (own_inv (-7046029254386353131 : Int64))), .second, .val (.int (4 : Int32)), .val (.int (3 : Int32)), .val (.ref b81), .val (.ref b92), .val (.ref b101), .val (.long (own_vf u2 3)), .second, .val (.long (WN rr)), .second, .val (.int (1 : Int32))] [(.int (1 : Int32))]))
      obtain ⟨fs, hr, hrun, hended, hW, hsame⟩ := XM.leave (v := some (.int (1 : Int32))) (fun h => by rw [Bd.returns] at h; cases h)
      refine own_out (retN XM hx (t := .boolean) Bd.returns (by simp) (hb hby at_446) hr) ⟨hrun, hended, _, _, rfl, ?_, ⟨_, rfl⟩, hW, hsame.mono (by decide) (by decide)⟩
      show Q0 Z u0 u1 u2 h0 n0 _ TM.heap _
      exact ⟨rfl, NM⟩
    · skip
      rw [hs208]
      have HT := own_H5 u0 u1 u2
      obtain ⟨ts, tq, es, er, eg0, eg1, eg2, eg3⟩ := own_chkE (own_c44 _ (own_offN u0 0).1 _ (own_offN u0 1).1 _ (own_offN u0 2).1 _ (own_offN u0 3).1 _ (own_offN u0 4).1)
      have ess : ts = tt := Option.some.inj (es.symm.trans etN)
      rw [ess] at er
      obtain ⟨rr, rf, rz, RQ⟩ := own_stepA HT RR4 (n := 4) (a := 4) (by decide) (by decide) er
      obtain ⟨g0, gf0, ga0_, gb0_⟩ := own_stepG HT RQ (q := 0) (by decide) eg0
      obtain ⟨g1, gf1, ga1_, gb1_⟩ := own_stepG HT RQ (q := 1) (by decide) eg1
      obtain ⟨g2, gf2, ga2_, gb2_⟩ := own_stepG HT RQ (q := 2) (by decide) eg2
      obtain ⟨g3, gf3, ga3_, gb3_⟩ := own_stepG HT RQ (q := 3) (by decide) eg3
      show own_Go _ _ _ _ (T207.setTop (mkF m 220 #[.val (.int u0), .val (.long u1), .second, .val (.long u2), .second, .val (.long (own_inv (-7046029254386353131 : Int64))), .second, .val (.int (4 : Int32)), .val (.int (4 : Int32)), .val (.ref b81), .val (.ref b92), .val (.ref b101), .unset, .unset, .unset, .unset, .unset] []))
      refine own_st (fun _ k => XS.iload X207.here hx rfl (hb hby at_220) rfl k) ?_
      refine own_st (fun _ k => XS.iload X207.here hx rfl (hb hby at_222) rfl k) ?_
      show own_Go _ _ _ _ (T207.setTop (mkF m 224 #[.val (.int u0), .val (.long u1), .second, .val (.long u2), .second, .val (.long (own_inv (-7046029254386353131 : Int64))), .second, .val (.int (4 : Int32)), .val (.int (4 : Int32)), .val (.ref b81), .val (.ref b92), .val (.ref b101), .unset, .unset, .unset, .unset, .unset] [(.int (4 : Int32)), (.int (4 : Int32))]))
      refine own_st (fun _ k => XS.icmpYes X207.here hx rfl (pc0 := 224) (pc' := 235) rfl (hb hby at_224) rfl (flt (by decide : ¬ ((4 : Int32) < (4 : Int32)))).2.1 (by decide) (by decide) k) ?_
      refine own_st (fun _ k => XS.lconst X207.here hx rfl (hb hby at_235) k) ?_
      refine own_st (fun _ k => XS.lstore X207.here hx rfl (hb hby at_236) rfl (l' := #[.val (.int u0), .val (.long u1), .second, .val (.long u2), .second, .val (.long (own_inv (-7046029254386353131 : Int64))), .second, .val (.int (4 : Int32)), .val (.int (4 : Int32)), .val (.ref b81), .val (.ref b92), .val (.ref b101), .val (.long (0 : Int64)), .second, .unset, .unset, .unset]) rfl k) ?_
      refine own_st (fun _ k => XS.aload X207.here hx rfl (hb hby at_238) rfl rfl k) ?_
      refine own_st (fun _ k => XS.aload X207.here hx rfl (hb hby at_240) rfl rfl k) ?_
      refine own_st (fun _ k => XS.iload X207.here hx rfl (hb hby at_242) rfl k) ?_
      show own_Go _ _ _ _ (T207.setTop (mkF m 244 #[.val (.int u0), .val (.long u1), .second, .val (.long u2), .second, .val (.long (own_inv (-7046029254386353131 : Int64))), .second, .val (.int (4 : Int32)), .val (.int (4 : Int32)), .val (.ref b81), .val (.ref b92), .val (.ref b101), .val (.long (0 : Int64)), .second, .unset, .unset, .unset] [(.int (4 : Int32)), (.ref b81), (.ref b101)]))
      obtain ⟨cl221, Ar221, -, Sz221, Nn221, Hs221, -⟩ := id z207_V_b81
      have hin221 : ¬ ((4 : Int32) < 0 ∨ cl221.slots.size ≤ ((4 : Int32)).toNatClampNeg) := inb_of Sz221 ⟨(by decide : ¬ ((4 : Int32) < (0 : Int32))), (by decide : (4 : Int32) < (5 : Int32))⟩
      have hat221 : cl221.slots[((4 : Int32)).toNatClampNeg]? = some (.long (own_kf u0 u1 4)) := Hs221.at hin221 rfl
      refine own_st (X207.laload hx (j := (4 : Int32)) (v := (.long (own_kf u0 u1 4))) Ar221.1 (State.isArrayOf_alike hZ.alike Ar221.2.1) Ar221.2.2 hin221 hat221 (g := (mkF m 244 #[.val (.int u0), .val (.long u1), .second, .val (.long u2), .second, .val (.long (own_inv (-7046029254386353131 : Int64))), .second, .val (.int (4 : Int32)), .val (.int (4 : Int32)), .val (.ref b81), .val (.ref b92), .val (.ref b101), .val (.long (0 : Int64)), .second, .unset, .unset, .unset] [(.int (4 : Int32)), (.ref b81), (.ref b101)])) rfl rfl (hb hby at_244)) ?_
      show own_Go _ _ _ _ (T207.setTop (mkF m 245 #[.val (.int u0), .val (.long u1), .second, .val (.long u2), .second, .val (.long (own_inv (-7046029254386353131 : Int64))), .second, .val (.int (4 : Int32)), .val (.int (4 : Int32)), .val (.ref b81), .val (.ref b92), .val (.ref b101), .val (.long (0 : Int64)), .second, .unset, .unset, .unset] [(.long (own_kf u0 u1 4)), (.ref b101)]))
      obtain ⟨cq222, kq222, q222a, q222b, q222c⟩ := isOf hZ rfl z207_E_b101
      obtain ⟨_, _, ⟨T222, L222, k222, n222⟩, -, X222, ⟨Lc222, hQ222, l222, y222, z222⟩, st222⟩ := X207.virtualBack hx (y := (⟨"quillvax/store/LongMap", "remove", "(J)J"⟩ : MethodName)) (z := (⟨"quillvax/store/LongMap", "remove", "(J)J"⟩ : MethodName)) hown (mvT hZ (hw _ (List.mem_of_getElem? (i := 34) rfl))) (mvT hZ (hw _ (List.mem_of_getElem? (i := 35) rfl))) (notFace_of_selects (args := #[]) (mvT hZ (hw _ (List.mem_of_getElem? (i := 37) rfl)))) (mvT hZ (hw _ (List.mem_of_getElem? (i := 37) rfl))) (mvT hZ (hw _ (List.mem_of_getElem? (i := 36) rfl))) (by decide) (backOf (W := 0) (rm7a l Z a0 hw [] b101 ka102 wa102 kk102 kw102 KN WN (own_kf u0 u1 4) rr T207.heap n0 Z207 z207_E_b101 Fq207_keys Fq207_values Fq207_slotBits VkN VwN rf rz) hZ (hw _ (List.mem_of_getElem? (i := 38) rfl)) (hw _ (List.mem_of_getElem? (i := 16) rfl)) (by decide) (by decide)) q222a q222c (g := (mkF m 245 #[.val (.int u0), .val (.long u1), .second, .val (.long u2), .second, .val (.long (own_inv (-7046029254386353131 : Int64))), .second, .val (.int (4 : Int32)), .val (.int (4 : Int32)), .val (.ref b81), .val (.ref b92), .val (.ref b101), .val (.long (0 : Int64)), .second, .unset, .unset, .unset] [(.long (own_kf u0 u1 4)), (.ref b101)])) rfl (by rw [hml]; rfl) (Steps.refl _) (argsL := [(.long (own_kf u0 u1 4))]) (rest := []) (lenOf own_pd0 rfl) rfl (by show 2 * 0 + _ ≤ _; exact Nat.le_of_eq rfl) (hb hby at_245) (fun _ _ => ⟨rfl, rfl, (by decide : 5 + 0 ≤ _), (by decide : 45 + 0 ≤ _)⟩)
      dsimp only [Pt.U, Pt.locs, Pt.cells, Pt.slots] at X222 l222 y222 z222 st222 hQ222
      rw [l222, y222, z222] at X222
      obtain ⟨rfl, Nq222, eq222⟩ := hQ222
      have N222 := Fr.app N207 Nq222
      refine own_tr st222 ?_
      refine own_st (fun _ k => XS.lstore X222.here hx rfl (hb hby at_248) rfl (l' := #[.val (.int u0), .val (.long u1), .second, .val (.long u2), .second, .val (.long (own_inv (-7046029254386353131 : Int64))), .second, .val (.int (4 : Int32)), .val (.int (4 : Int32)), .val (.ref b81), .val (.ref b92), .val (.ref b101), .val (.long (0 : Int64)), .second, .val (.long (0 : Int64)), .second, .unset]) rfl k) ?_
      refine own_st (fun _ k => XS.lload X222.here hx rfl (hb hby at_250) rfl k) ?_
      refine own_st (fun _ k => XS.lload X222.here hx rfl (hb hby at_252) rfl k) ?_
      show own_Go _ _ _ _ (T222.setTop (mkF m 254 #[.val (.int u0), .val (.long u1), .second, .val (.long u2), .second, .val (.long (own_inv (-7046029254386353131 : Int64))), .second, .val (.int (4 : Int32)), .val (.int (4 : Int32)), .val (.ref b81), .val (.ref b92), .val (.ref b101), .val (.long (0 : Int64)), .second, .val (.long (0 : Int64)), .second, .unset] [(.long (0 : Int64)), (.long (0 : Int64))]))
      refine own_st (fun _ k => XS.lcmp X222.here hx rfl (hb hby at_254) rfl k) ?_
      show own_Go _ _ _ _ (T222.setTop (mkF m 255 #[.val (.int u0), .val (.long u1), .second, .val (.long u2), .second, .val (.long (own_inv (-7046029254386353131 : Int64))), .second, .val (.int (4 : Int32)), .val (.int (4 : Int32)), .val (.ref b81), .val (.ref b92), .val (.ref b101), .val (.long (0 : Int64)), .second, .val (.long (0 : Int64)), .second, .unset] [(.int (lcmpW (0 : Int64) (0 : Int64)))]))
      rw [show (lcmpW (0 : Int64) (0 : Int64)) = (0 : Int32) from by decide]
      show own_Go _ _ _ _ (T222.setTop (mkF m 255 #[.val (.int u0), .val (.long u1), .second, .val (.long u2), .second, .val (.long (own_inv (-7046029254386353131 : Int64))), .second, .val (.int (4 : Int32)), .val (.int (4 : Int32)), .val (.ref b81), .val (.ref b92), .val (.ref b101), .val (.long (0 : Int64)), .second, .val (.long (0 : Int64)), .second, .unset] [(.int (0 : Int32))]))
      refine own_st (fun _ k => XS.ifNo X222.here hx rfl (hb hby at_255) rfl ((if0 _ _).trans (teq (by decide : ((0 : Int32) = (0 : Int32)))).2) k) ?_
      refine own_st (fun _ k => XS.iconst X222.here hx rfl (hb hby at_258) k) ?_
      refine own_st (fun _ k => XS.goto X222.here hx rfl (pc0 := 259) (pc' := 263) rfl (hb hby at_259) (by decide) (by decide) k) ?_
      refine own_st (fun _ k => XS.istore X222.here hx rfl (hb hby at_263) rfl (l' := #[.val (.int u0), .val (.long u1), .second, .val (.long u2), .second, .val (.long (own_inv (-7046029254386353131 : Int64))), .second, .val (.int (4 : Int32)), .val (.int (4 : Int32)), .val (.ref b81), .val (.ref b92), .val (.ref b101), .val (.long (0 : Int64)), .second, .val (.long (0 : Int64)), .second, .val (.int (1 : Int32))]) rfl k) ?_
      show own_Go _ _ _ _ (T222.setTop (mkF m 265 #[.val (.int u0), .val (.long u1), .second, .val (.long u2), .second, .val (.long (own_inv (-7046029254386353131 : Int64))), .second, .val (.int (4 : Int32)), .val (.int (4 : Int32)), .val (.ref b81), .val (.ref b92), .val (.ref b101), .val (.long (0 : Int64)), .second, .val (.long (0 : Int64)), .second, .val (.int (1 : Int32))] []))
      refine TAIL _ _ _ _ _ _ g0 g1 g2 g3 _ _ _ _ X222 eq222 VkN VwN z207_E_b101 Fq207_keys Fq207_values Fq207_slotBits z207_V_b81 z207_V_b92 N222 Z207 gf0 (by rw [if_pos (by decide), if_neg (by decide)]; exact gb0_ (by decide)) gf1 (by rw [if_pos (by decide), if_neg (by decide)]; exact gb1_ (by decide)) gf2 (by rw [if_pos (by decide), if_neg (by decide)]; exact gb2_ (by decide)) gf3 (by rw [if_pos (by decide), if_neg (by decide)]; exact gb3_ (by decide)) ?_
      intro TM lcM XM NM
      show own_Go _ _ _ _ (TM.setTop (mkF m 446 #[.val (.int u0), .val (.long u1), .second, .val (.long u2), .second, .val (.long (own_inv (-7046029254386353131 : Int64))), .second, .val (.int (4 : Int32)), .val (.int (4 : Int32)), .val (.ref b81), .val (.ref b92), .val (.ref b101), .val (.long (0 : Int64)), .second, .val (.long (0 : Int64)), .second, .val (.int (1 : Int32))] [(.int (1 : Int32))]))
      obtain ⟨fs, hr, hrun, hended, hW, hsame⟩ := XM.leave (v := some (.int (1 : Int32))) (fun h => by rw [Bd.returns] at h; cases h)
      refine own_out (retN XM hx (t := .boolean) Bd.returns (by simp) (hb hby at_446) hr) ⟨hrun, hended, _, _, rfl, ?_, ⟨_, rfl⟩, hW, hsame.mono (by decide) (by decide)⟩
      show Q0 Z u0 u1 u2 h0 n0 _ TM.heap _
      exact ⟨rfl, NM⟩
set_option maxRecDepth 65536 in
set_option maxHeartbeats 40000000 in
theorem comes_1 {Post : Tables → Env → Array Value → State → Outcome → State → Prop} (hpost : ∀ tb e args s v u, (limb_1_1.after args s (.returned v) u = true ∧ limb_1_2.after args s (.returned v) u = true ∧ True) → FrameEnd s (.returned v) u (Jvm.fieldLocs frame_1_writes args s ++ Jvm.arrayLocs frame_1_arrays args s ++ Jvm.staticLocs frame_1_statics s) 24 192 → Post tb e args s (.returned v) u) :
    ArmFor flags0 classFile x code maxLocals ret World_1 tables_1 room_1 Calls_1 rest_1 Pre_1 Post := by
  intro l hfl _ _ p e ha hc hk s m args below hf hA hF happ hP
  obtain ⟨hcalls, hrest, hpre⟩ := hP
  obtain ⟨-, -, -, hnamed, -, -, -, hat⟩ := (Spec.applies_iff hf).mp happ
  obtain ⟨hg, hn⟩ := and_e (Cond.before_iff.mp (show (Jvm.Cond.and given_1 narrow_1).before args s = true from hpre))
  obtain ⟨h1, h2⟩ := and_e hg
  obtain ⟨ha0, h2⟩ := and_e h2
  obtain ⟨ha1, h2⟩ := and_e h2
  have ha2 := h2
  obtain ⟨w0, w1, w2, rfl⟩ : ∃ w0 w1 w2 : Value, args = #[w0, w1, w2] := by
    have hs : args.size = 3 := by simpa [Cond.value, given_1] using h1
    obtain ⟨L⟩ := args
    match L, hs with
    | [w0, w1, w2], _ => exact ⟨w0, w1, w2, rfl⟩
  have hw := fun d (hd : d ∈ tables_1) => atoms_spec (ws := Jvm.Cond.code x code maxLocals ret :: tables_1) hat d (List.mem_cons_of_mem _ hd)
  obtain ⟨i0, ei0⟩ := is_v ha0
  obtain rfl : w0 = (.int i0) := Option.some.inj ei0
  obtain ⟨i1, ei1⟩ := isL_v ha1
  obtain rfl : w1 = (.long i1) := Option.some.inj ei1
  obtain ⟨i2, ei2⟩ := isL_v ha2
  obtain rfl : w2 = (.long i2) := Option.some.inj ei2
  obtain ⟨n, o, h1, h2, h3, _, L, rfl, ⟨rfl, N⟩, hq⟩ := rm0 l s _ hw tables_1 i0 i1 i2 s.heap s.heap.size (Nat.le_refl _)  p e ha hc hk s m _ below hf ((Spec.applies_iff_loose hf).mp happ).1 ⟨rfl, State.Warmed39.refl s, rfl⟩ trivial
  refine ⟨n, _, h1, h2, h3, hpost _ _ _ _ _ _ ⟨Cond.after_iff.mpr rfl, Cond.after_iff.mpr (eq_i res_at (Term.int_eval (1)) rfl), trivial⟩ ⟨hq.1, hq.2.1, (hq.2.2.sift fun y hy => Or.inr (N y hy)).mono (by decide) (by decide)⟩⟩
theorem main_1_1 : Claimed_1_1 := comes_1 fun _ _ _ _ _ _ h hF => ⟨h.1, hF⟩
theorem main_1_2 : Claimed_1_2 := comes_1 fun _ _ _ _ _ _ h hF => ⟨h.2.1, hF⟩
end Jvm.Pilot.@@N@@
namespace Jvm.Pilot.@@N@@
open Jvm Jvm.ClassFile Sem Op Lib Jvm.Free Jvm.Stand Jvm.Pilot.@@N@@.Jvm.D
/-! MADE BY PROGRAM (witnessworld.py) out of the Statement's table words and the real class files: 16 classes; the members and pool entries that the words name. The judged class is class 1, her method 4. -/
namespace start1
open Jvm.ClassFile
def u (s : String) : CpInfo := .utf8 (stringToUtf16 s)
/-- a pool by its gaps: so many unusable entries, then the entry; so many at the end -/
def gap : Nat → List CpInfo → List CpInfo
  | 0, r => r
  | n + 1, r => .unusable :: gap n r
def poolList (es : List (Nat × CpInfo)) (last : Nat) : List CpInfo := es.foldr (fun e r => gap e.1 (e.2 :: r)) (gap last [])
def pool (es : List (Nat × CpInfo)) (last : Nat) : Array CpInfo := ⟨poolList es last⟩
def fileOf (pool : Array CpInfo) (this : Nat) (attrs : Array Attribute := #[]) (ms : Array MethodInfo := #[]) (fl : Nat := 33) (sup : Nat := 0) (ifs : Array Nat := #[]) (fds : Array FieldInfo := #[]) : ClassFile where
  minorVersion := 0
  majorVersion := 65
  constantPool := pool
  accessFlags := fl
  thisClass := this
  superClass := sup
  interfaces := ifs
  fields := fds
  methods := ms
  attributes := attrs
def plain (name : String) (sup : Option ClassId) : Class where
  name := name
  kind := .ordinary
  loader := none
  accessFlags := 33
  super := sup
  interfaces := #[]
  cf := none
  fields := #[]
  methods := #[]
  instanceTypes := #[]
  staticTypes := #[]
  resolved := #[]
  callSites := []
  init := .initialized
  statics := none
  mirror := none

def pool0 : Array CpInfo := pool [(5, u "<init>"), (0, u "()V"), (1, .class_ 10), (1, u "java/lang/Object")] 113

def k0c0 : Code := { maxStack := 0, maxLocals := 1, code := object_method_1_code, exceptionTable := #[], attributes := #[] }
def k0m0 : Method := { name := "<init>", desc := "()V", sig := { parameters := [], returnType := none }, accessFlags := 1, code := some k0c0 }
/-- java/lang/Object -/
def k0 : Class := { plain "java/lang/Object" none with
  accessFlags := 33
  interfaces := #[]
  cf := some (fileOf pool0 8 #[] #[{ accessFlags := 1, nameIndex := 5, descriptorIndex := 6, attributes := #[] }] 33 0 #[] #[])
  fields := #[]
  methods := #[k0m0]
  instanceTypes := #[]
  staticTypes := #[]
  resolved := Array.replicate 124 none
  statics := none }

def pool1 : Array CpInfo := pool [(2, .class_ 4), (0, .nameAndType 5 6), (0, u "java/lang/Object"), (0, u "<init>"), (0, u "()V"), (0, .long 2), (1, .long 72057594037927935), (1, .long 11400714819323198485), (1, .methodref 14 15), (0, .class_ 16), (0, .nameAndType 17 18), (0, u "quillvax/store/LongMapRemovePinLaw"), (0, u "inverse"), (0, u "(J)J"), (0, .methodref 14 20), (0, .nameAndType 21 22), (0, u "key"), (0, u "(IJJI)J"), (0, .methodref 14 24), (0, .nameAndType 25 26), (0, u "value"), (0, u "(JI)J"), (0, .class_ 28), (0, u "quillvax/store/LongMap"), (0, .methodref 27 3), (0, .methodref 27 31), (0, .nameAndType 32 33), (0, u "put"), (0, u "(JJ)V"), (0, .methodref 27 35), (0, .nameAndType 36 18), (0, u "remove"), (0, .methodref 27 38), (0, .nameAndType 39 18), (0, u "get"), (2, u "law"), (0, u "(IJJ)Z")] 5

def k1m0 : Method := { name := "<init>", desc := "()V", sig := { parameters := [], returnType := none }, accessFlags := 1, code := none }
def k1c1 : Code := { maxStack := 8, maxLocals := 4, code := method_2_code, exceptionTable := #[], attributes := #[] }
def k1m1 : Method := { name := "inverse", desc := "(J)J", sig := { parameters := [.long], returnType := some .long }, accessFlags := 10, code := some k1c1 }
def k1c2 : Code := { maxStack := 6, maxLocals := 10, code := method_3_code, exceptionTable := #[], attributes := #[] }
def k1m2 : Method := { name := "key", desc := "(IJJI)J", sig := { parameters := [.int, .long, .long, .int], returnType := some .long }, accessFlags := 10, code := some k1c2 }
def k1c3 : Code := { maxStack := 4, maxLocals := 3, code := method_4_code, exceptionTable := #[], attributes := #[] }
def k1m3 : Method := { name := "value", desc := "(JI)J", sig := { parameters := [.long, .int], returnType := some .long }, accessFlags := 10, code := some k1c3 }
def k1c4 : Code := { maxStack := 8, maxLocals := 17, code := code, exceptionTable := #[], attributes := #[] }
def k1m4 : Method := { name := "law", desc := "(IJJ)Z", sig := { parameters := [.int, .long, .long], returnType := some .boolean }, accessFlags := 9, code := some k1c4 }
/-- quillvax/store/LongMapRemovePinLaw -/
def k1 : Class := { plain "quillvax/store/LongMapRemovePinLaw" (some 0) with
  accessFlags := 49
  interfaces := #[]
  cf := some (fileOf pool1 14 #[] #[{ accessFlags := 1, nameIndex := 5, descriptorIndex := 6, attributes := #[] }, { accessFlags := 10, nameIndex := 17, descriptorIndex := 18, attributes := #[] }, { accessFlags := 10, nameIndex := 21, descriptorIndex := 22, attributes := #[] }, { accessFlags := 10, nameIndex := 25, descriptorIndex := 26, attributes := #[] }, { accessFlags := 9, nameIndex := 42, descriptorIndex := 43, attributes := #[] }] 49 2 #[] #[])
  fields := #[]
  methods := #[k1m0, k1m1, k1m2, k1m3, k1m4]
  instanceTypes := #[]
  staticTypes := #[]
  resolved := Array.replicate 49 none
  statics := none }

def pool2 : Array CpInfo := pool [(1, .methodref 2 3), (0, .class_ 4), (0, .nameAndType 5 6), (0, u "java/lang/Object"), (0, u "<init>"), (0, u "()V"), (0, .class_ 8), (0, u "quillvax/store/LongMap"), (0, .fieldref 7 10), (0, .nameAndType 11 12), (0, u "keys"), (0, u "[J"), (0, .fieldref 7 14), (0, .nameAndType 15 12), (0, u "values"), (0, .methodref 17 18), (0, .class_ 19), (0, .nameAndType 20 21), (0, u "java/lang/Integer"), (0, u "numberOfTrailingZeros"), (0, u "(I)I"), (0, .fieldref 7 23), (0, .nameAndType 24 25), (0, u "slotBits"), (0, u "I"), (0, .methodref 7 27), (0, .nameAndType 28 29), (0, u "slotOf"), (0, u "(J)I"), (0, .methodref 7 31), (0, .nameAndType 32 33), (0, u "checkValue"), (0, u "(J)V"), (0, .methodref 7 35), (0, .nameAndType 36 37), (0, u "putNew"), (0, u "(IJJ)V"), (0, .fieldref 7 39), (0, .nameAndType 40 25), (0, u "size"), (0, .methodref 7 42), (0, .nameAndType 43 29), (0, u "homeOf"), (11, .long 11400714819323198485), (8, u "FIRST_CAPACITY"), (2, u "MOST_SLOTS"), (0, u "SPREAD"), (0, u "J"), (2, u "get"), (0, u "(J)J"), (0, u "put"), (0, u "(JJ)V"), (3, u "remove")] 3

def k2c0 : Code := { maxStack := 2, maxLocals := 1, code := prog_39_method_1_code, exceptionTable := #[], attributes := #[] }
def k2m0 : Method := { name := "<init>", desc := "()V", sig := { parameters := [], returnType := none }, accessFlags := 0, code := some k2c0 }
def k2c1 : Code := { maxStack := 4, maxLocals := 3, code := prog_39_method_2_code, exceptionTable := #[], attributes := #[] }
def k2m1 : Method := { name := "get", desc := "(J)J", sig := { parameters := [.long], returnType := some .long }, accessFlags := 0, code := some k2c1 }
def k2c2 : Code := { maxStack := 6, maxLocals := 6, code := prog_39_method_3_code, exceptionTable := #[], attributes := #[] }
def k2m2 : Method := { name := "put", desc := "(JJ)V", sig := { parameters := [.long, .long], returnType := none }, accessFlags := 0, code := some k2c2 }
def k2c3 : Code := { maxStack := 4, maxLocals := 8, code := prog_39_method_5_code, exceptionTable := #[], attributes := #[] }
def k2m3 : Method := { name := "remove", desc := "(J)J", sig := { parameters := [.long], returnType := some .long }, accessFlags := 0, code := some k2c3 }
def k2c4 : Code := { maxStack := 4, maxLocals := 5, code := prog_39_method_6_code, exceptionTable := #[], attributes := #[] }
def k2m4 : Method := { name := "slotOf", desc := "(J)I", sig := { parameters := [.long], returnType := some .int }, accessFlags := 2, code := some k2c4 }
def k2c5 : Code := { maxStack := 4, maxLocals := 7, code := prog_39_method_7_code, exceptionTable := #[], attributes := #[] }
def k2m5 : Method := { name := "putNew", desc := "(IJJ)V", sig := { parameters := [.int, .long, .long], returnType := none }, accessFlags := 2, code := some k2c5 }
def k2c6 : Code := { maxStack := 4, maxLocals := 3, code := prog_39_method_9_code, exceptionTable := #[], attributes := #[] }
def k2m6 : Method := { name := "homeOf", desc := "(J)I", sig := { parameters := [.long], returnType := some .int }, accessFlags := 2, code := some k2c6 }
def k2c7 : Code := { maxStack := 4, maxLocals := 2, code := prog_39_method_10_code, exceptionTable := #[], attributes := #[] }
def k2m7 : Method := { name := "checkValue", desc := "(J)V", sig := { parameters := [.long], returnType := none }, accessFlags := 10, code := some k2c7 }
/-- quillvax/store/LongMap -/
def k2 : Class := { plain "quillvax/store/LongMap" (some 0) with
  accessFlags := 48
  interfaces := #[]
  cf := some (fileOf pool2 7 #[] #[{ accessFlags := 0, nameIndex := 5, descriptorIndex := 6, attributes := #[] }, { accessFlags := 0, nameIndex := 72, descriptorIndex := 73, attributes := #[] }, { accessFlags := 0, nameIndex := 74, descriptorIndex := 75, attributes := #[] }, { accessFlags := 0, nameIndex := 79, descriptorIndex := 73, attributes := #[] }, { accessFlags := 2, nameIndex := 28, descriptorIndex := 29, attributes := #[] }, { accessFlags := 2, nameIndex := 36, descriptorIndex := 37, attributes := #[] }, { accessFlags := 2, nameIndex := 43, descriptorIndex := 29, attributes := #[] }, { accessFlags := 10, nameIndex := 32, descriptorIndex := 33, attributes := #[] }] 48 2 #[] #[{ accessFlags := 26, nameIndex := 64, descriptorIndex := 25, attributes := #[] }, { accessFlags := 26, nameIndex := 67, descriptorIndex := 25, attributes := #[] }, { accessFlags := 26, nameIndex := 68, descriptorIndex := 69, attributes := #[] }, { accessFlags := 2, nameIndex := 11, descriptorIndex := 12, attributes := #[] }, { accessFlags := 2, nameIndex := 15, descriptorIndex := 12, attributes := #[] }, { accessFlags := 2, nameIndex := 24, descriptorIndex := 25, attributes := #[] }, { accessFlags := 2, nameIndex := 40, descriptorIndex := 25, attributes := #[] }])
  fields := #[{ name := "FIRST_CAPACITY", type := .int, accessFlags := 26, slot := 0, constantValue := 0 }, { name := "MOST_SLOTS", type := .int, accessFlags := 26, slot := 1, constantValue := 0 }, { name := "SPREAD", type := .long, accessFlags := 26, slot := 2, constantValue := 0 }, { name := "keys", type := (.array .long), accessFlags := 2, slot := 0, constantValue := 0 }, { name := "values", type := (.array .long), accessFlags := 2, slot := 1, constantValue := 0 }, { name := "slotBits", type := .int, accessFlags := 2, slot := 2, constantValue := 0 }, { name := "size", type := .int, accessFlags := 2, slot := 3, constantValue := 0 }]
  methods := #[k2m0, k2m1, k2m2, k2m3, k2m4, k2m5, k2m6, k2m7]
  instanceTypes := #[(.array .long), (.array .long), .int, .int]
  staticTypes := #[.int, .int, .long]
  resolved := Array.replicate 83 none
  statics := none }

def pool3 : Array CpInfo := pool [(1, .class_ 2), (0, u "java/io/Serializable"), (0, .class_ 4), (0, u "java/lang/Object")] 2

/-- java/io/Serializable -/
def k3 : Class := { plain "java/io/Serializable" (some 0) with
  accessFlags := 1537
  interfaces := #[]
  cf := some (fileOf pool3 1 #[] #[] 1537 3 #[] #[])
  fields := #[]
  methods := #[]
  instanceTypes := #[]
  staticTypes := #[]
  resolved := Array.replicate 7 none
  statics := none }

def pool4 : Array CpInfo := pool [(2, .class_ 4), (1, u "java/lang/Object"), (0, u "<init>"), (0, u "()V"), (1, .class_ 10), (1, u "java/lang/Number"), (2, .class_ 14), (0, u "java/io/Serializable"), (0, u "serialVersionUID"), (0, u "J")] 20

def k4m0 : Method := { name := "<init>", desc := "()V", sig := { parameters := [], returnType := none }, accessFlags := 1, code := none }
/-- java/lang/Number -/
def k4 : Class := { plain "java/lang/Number" (some 0) with
  accessFlags := 1057
  interfaces := #[3]
  cf := some (fileOf pool4 8 #[] #[{ accessFlags := 1, nameIndex := 5, descriptorIndex := 6, attributes := #[] }] 1057 2 #[13] #[{ accessFlags := 26, nameIndex := 15, descriptorIndex := 16, attributes := #[] }])
  fields := #[{ name := "serialVersionUID", type := .long, accessFlags := 26, slot := 0, constantValue := 0 }]
  methods := #[k4m0]
  instanceTypes := #[]
  staticTypes := #[.long]
  resolved := Array.replicate 37 none
  statics := none }

def pool5 : Array CpInfo := pool [(1, .class_ 2), (0, u "java/lang/Comparable"), (0, .class_ 4), (0, u "java/lang/Object")] 7

/-- java/lang/Comparable -/
def k5 : Class := { plain "java/lang/Comparable" (some 0) with
  accessFlags := 1537
  interfaces := #[]
  cf := some (fileOf pool5 1 #[] #[] 1537 3 #[] #[])
  fields := #[]
  methods := #[]
  instanceTypes := #[]
  staticTypes := #[]
  resolved := Array.replicate 12 none
  statics := none }

def pool6 : Array CpInfo := pool [(1, .class_ 2), (0, u "java/lang/constant/Constable"), (0, .class_ 4), (0, u "java/lang/Object")] 6

/-- java/lang/constant/Constable -/
def k6 : Class := { plain "java/lang/constant/Constable" (some 0) with
  accessFlags := 1537
  interfaces := #[]
  cf := some (fileOf pool6 1 #[] #[] 1537 3 #[] #[])
  fields := #[]
  methods := #[]
  instanceTypes := #[]
  staticTypes := #[]
  resolved := Array.replicate 11 none
  statics := none }

def pool7 : Array CpInfo := pool [(1, .class_ 2), (0, u "java/lang/constant/ConstantDesc"), (0, .class_ 4), (0, u "java/lang/Object")] 32

/-- java/lang/constant/ConstantDesc -/
def k7 : Class := { plain "java/lang/constant/ConstantDesc" (some 0) with
  accessFlags := 1537
  interfaces := #[]
  cf := some (fileOf pool7 1 #[] #[] 1537 3 #[] #[])
  fields := #[]
  methods := #[]
  instanceTypes := #[]
  staticTypes := #[]
  resolved := Array.replicate 37 none
  statics := none }

def pool8 : Array CpInfo := pool [(1, .class_ 2), (0, u "java/lang/Integer"), (16, u "digits"), (0, u "[C"), (33, u "(I)I"), (30, u "DigitOnes"), (0, u "[B"), (2, u "DigitTens"), (99, .class_ 190), (0, u "java/lang/Integer$IntegerCache"), (3, u "I"), (8, .class_ 204), (0, u "java/lang/Number"), (2, u "value"), (56, .integer 65536), (37, u "TYPE"), (0, u "Ljava/lang/Class;"), (0, .class_ 305), (0, u "java/lang/Comparable"), (0, .class_ 307), (0, u "java/lang/constant/Constable"), (0, .class_ 309), (0, u "java/lang/constant/ConstantDesc"), (0, u "MIN_VALUE"), (1, u "MAX_VALUE"), (3, u "SIZE"), (1, u "BYTES"), (1, u "serialVersionUID"), (0, u "J"), (84, u "numberOfTrailingZeros")] 46

def k8c0 : Code := { maxStack := 3, maxLocals := 2, code := jdk_33_method_48_code, exceptionTable := #[], attributes := #[] }
def k8m0 : Method := { name := "numberOfTrailingZeros", desc := "(I)I", sig := { parameters := [.int], returnType := some .int }, accessFlags := 9, code := some k8c0 }
/-- java/lang/Integer -/
def k8 : Class := { plain "java/lang/Integer" (some 4) with
  accessFlags := 49
  interfaces := #[5, 6, 7]
  cf := some (fileOf pool8 1 #[.nestMembers #[189]] #[{ accessFlags := 9, nameIndex := 406, descriptorIndex := 54, attributes := #[] }] 49 203 #[304, 306, 308] #[{ accessFlags := 25, nameIndex := 310, descriptorIndex := 194, attributes := #[] }, { accessFlags := 25, nameIndex := 312, descriptorIndex := 194, attributes := #[] }, { accessFlags := 25, nameIndex := 302, descriptorIndex := 303, attributes := #[] }, { accessFlags := 24, nameIndex := 19, descriptorIndex := 20, attributes := #[] }, { accessFlags := 24, nameIndex := 89, descriptorIndex := 86, attributes := #[] }, { accessFlags := 24, nameIndex := 85, descriptorIndex := 86, attributes := #[] }, { accessFlags := 18, nameIndex := 207, descriptorIndex := 194, attributes := #[] }, { accessFlags := 25, nameIndex := 316, descriptorIndex := 194, attributes := #[] }, { accessFlags := 25, nameIndex := 318, descriptorIndex := 194, attributes := #[] }, { accessFlags := 26, nameIndex := 320, descriptorIndex := 321, attributes := #[] }])
  fields := #[{ name := "MIN_VALUE", type := .int, accessFlags := 25, slot := 0, constantValue := 0 }, { name := "MAX_VALUE", type := .int, accessFlags := 25, slot := 1, constantValue := 0 }, { name := "TYPE", type := (.object "java/lang/Class"), accessFlags := 25, slot := 2, constantValue := 0 }, { name := "digits", type := (.array .char), accessFlags := 24, slot := 3, constantValue := 0 }, { name := "DigitTens", type := (.array .byte), accessFlags := 24, slot := 4, constantValue := 0 }, { name := "DigitOnes", type := (.array .byte), accessFlags := 24, slot := 5, constantValue := 0 }, { name := "value", type := .int, accessFlags := 18, slot := 0, constantValue := 0 }, { name := "SIZE", type := .int, accessFlags := 25, slot := 6, constantValue := 0 }, { name := "BYTES", type := .int, accessFlags := 25, slot := 7, constantValue := 0 }, { name := "serialVersionUID", type := .long, accessFlags := 26, slot := 8, constantValue := 0 }]
  methods := #[k8m0]
  instanceTypes := #[.int]
  staticTypes := #[.int, .int, (.object "java/lang/Class"), (.array .char), (.array .byte), (.array .byte), .int, .int, .long]
  resolved := Array.replicate 453 none
  statics := none }

def pool9 : Array CpInfo := pool [(1, u "java/lang/Cloneable"), (0, .class_ 1), (0, u "java/lang/Object"), (0, .class_ 3)] 3

/-- java/lang/Cloneable -/
def k9 : Class := { plain "java/lang/Cloneable" (some 0) with
  accessFlags := 1537
  interfaces := #[]
  cf := some (fileOf pool9 2 #[] #[] 1537 4 #[] #[])
  fields := #[]
  methods := #[]
  instanceTypes := #[]
  staticTypes := #[]
  resolved := Array.replicate 8 none
  statics := none }

/-- the primitive byte -/
def k10 : Class := { plain "byte" none with kind := .primitive 'B', accessFlags := 0x411 }
/-- [B -/
def k11 : Class := { plain "[B" (some 0) with kind := .array 10 .byte, interfaces := #[9, 3], accessFlags := 1041 }

/-- the primitive int -/
def k12 : Class := { plain "int" none with kind := .primitive 'I', accessFlags := 0x411 }
/-- [I -/
def k13 : Class := { plain "[I" (some 0) with kind := .array 12 .int, interfaces := #[9, 3], accessFlags := 1041 }

/-- the primitive long -/
def k14 : Class := { plain "long" none with kind := .primitive 'J', accessFlags := 0x411 }
/-- [J -/
def k15 : Class := { plain "[J" (some 0) with kind := .array 14 .long, interfaces := #[9, 3], accessFlags := 1041 }

def heap : Heap := #[]
def classes : Array Class := #[k0, k1, k2, k3, k4, k5, k6, k7, k8, k9, k10, k11, k12, k13, k14, k15]
def interned : List (Array UInt16 × Addr) := []
def slotsUsed : Nat := 0
def theMethod : MethodId := ⟨1, 4⟩
def args0 : Array Value := #[.int 5, .long 7, .long 9]
def aboutOver (below : List Frame) : State where
  vm := { classes := classes, interned := interned.toArray }
  heap := heap
  slotsUsed := slotsUsed
  threads := #[{ frames := .invoking theMethod args0 :: below }]
def below0 : List Frame := [.native { method := ⟨0, 0⟩, args := #[] }]
def about1 : State := aboutOver below0
def p0 : Program := .bare "" "" ""
def e0 : Env := launch0.env 0 0 0
theorem w_frames : about1.frames = Frame.invoking theMethod args0 :: below0 := rfl
set_option maxRecDepth 65536 in
theorem w_args : argsFit about1.vm theMethod args0 = true := by decide +kernel
set_option maxRecDepth 65536 in
theorem w_heap : heapFits about1 = true := by decide +kernel
set_option maxRecDepth 65536 in
theorem w_runnable : about1.curStatus? = some .runnable := by decide +kernel
set_option maxRecDepth 65536 in
theorem w_alone : about1.alone = true := by decide +kernel
set_option maxRecDepth 65536 in
theorem w_named : about1.methodNamed? x = some theMethod := by decide +kernel
set_option maxRecDepth 65536 in
theorem w_hears : about1.hears theMethod below0 = true := by decide +kernel
set_option maxRecDepth 65536 in
theorem w_ripe : about1.ripe theMethod args0 below0 = true := by decide +kernel
theorem w_running : about1.status = .running := rfl
set_option maxRecDepth 65536 in
theorem w_room : about1.hasRoom e0.platform room_1 = true :=
  launch0.hasRoom_least _ room_1 (by decide +kernel) (by decide +kernel) (by decide +kernel) (by decide +kernel) (by decide +kernel) (by decide +kernel)
theorem allAtoms_all (ts : List Jvm.Cond) (a : Array Jvm.Value) (st : Jvm.State) : (allAtoms ts).before a st = ts.all (fun c => c.before a st) := by
  induction ts with
  | nil => rfl
  | cons c t ih =>
    show (Jvm.Cond.and c (allAtoms t)).before a st = _
    rw [Jvm.Cond.before_and, ih, List.all_cons]
def words1 : List Jvm.Cond := Jvm.Cond.code x code maxLocals ret :: tables_1
/-- a 'code' word, met by the world's own term for the bytes: nothing is compared byte by byte -/
theorem code_word {y : MethodName} {bytes : ByteArray} {mx : Nat} {rt : Option FieldType} {a : Array Value} {s : State} {m : MethodId} {meth : Method} {c : Code} (h1 : s.methodNamed? y = some m) (h2 : s.vm.method? m = some meth) (h3 : meth.code = some c) (h4 : c.code = bytes)
    (h5 : (c.maxLocals == mx && c.exceptionTable.isEmpty && decide (c.maxStack ≤ mostOperands) && decide (meth.sig.returnType = rt) && !meth.locks && decide (parseMethodDescriptor y.desc = some meth.sig)) = true) : (Jvm.Cond.code y bytes mx rt).before a s = true := by
  simp only [Bool.and_eq_true, beq_iff_eq, Bool.not_eq_true', decide_eq_true_eq] at h5
  obtain ⟨⟨⟨⟨⟨g1, g2⟩, g3⟩, g4⟩, g5⟩, g6⟩ := h5
  simp [Cond.before, Cond.holds, Cond.value, h1, h2, h3, h4, g1, g2, g3, g4, g5, g6]
def isCode : Jvm.Cond → Bool
  | .code _ _ _ _ => true
  | _ => false
theorem all_split {L : List Jvm.Cond} {P : Jvm.Cond → Bool} (h1 : L.all (fun c => isCode c || P c) = true) (h2 : ∀ c ∈ L.filter isCode, P c = true) : L.all P = true := by
  refine List.all_eq_true.mpr fun c hc => ?_
  have h := List.all_eq_true.mp h1 c hc
  rcases Bool.eq_false_or_eq_true (isCode c) with hi | hi
  · exact h2 c (List.mem_filter.mpr ⟨hc, hi⟩)
  · simpa [hi] using h
set_option maxRecDepth 65536 in
theorem w_c0 : (Jvm.Cond.code x code maxLocals ret).before args0 about1 = true := code_word (m := ⟨1, 4⟩) (meth := k1m4) (c := k1c4) (by decide +kernel) rfl rfl rfl (by decide +kernel)
set_option maxRecDepth 65536 in
theorem w_c1 : (Jvm.Cond.code ({ cls := "quillvax/store/LongMapRemovePinLaw", name := "inverse", desc := "(J)J" } : Jvm.MethodName) method_2_code (4 : Nat) (Option.some Jvm.ClassFile.FieldType.long)).before args0 about1 = true := code_word (m := ⟨1, 1⟩) (meth := k1m1) (c := k1c1) (by decide +kernel) rfl rfl rfl (by decide +kernel)
set_option maxRecDepth 65536 in
theorem w_c2 : (Jvm.Cond.code ({ cls := "quillvax/store/LongMapRemovePinLaw", name := "key", desc := "(IJJI)J" } : Jvm.MethodName) method_3_code (10 : Nat) (Option.some Jvm.ClassFile.FieldType.long)).before args0 about1 = true := code_word (m := ⟨1, 2⟩) (meth := k1m2) (c := k1c2) (by decide +kernel) rfl rfl rfl (by decide +kernel)
set_option maxRecDepth 65536 in
theorem w_c3 : (Jvm.Cond.code ({ cls := "quillvax/store/LongMapRemovePinLaw", name := "value", desc := "(JI)J" } : Jvm.MethodName) method_4_code (3 : Nat) (Option.some Jvm.ClassFile.FieldType.long)).before args0 about1 = true := code_word (m := ⟨1, 3⟩) (meth := k1m3) (c := k1c3) (by decide +kernel) rfl rfl rfl (by decide +kernel)
set_option maxRecDepth 65536 in
theorem w_c4 : (Jvm.Cond.code ({ cls := "quillvax/store/LongMap", name := "<init>", desc := "()V" } : Jvm.MethodName) prog_39_method_1_code (1 : Nat) (Option.none : Option Jvm.ClassFile.FieldType)).before args0 about1 = true := code_word (m := ⟨2, 0⟩) (meth := k2m0) (c := k2c0) (by decide +kernel) rfl rfl rfl (by decide +kernel)
set_option maxRecDepth 65536 in
theorem w_c5 : (Jvm.Cond.code ({ cls := "java/lang/Object", name := "<init>", desc := "()V" } : Jvm.MethodName) object_method_1_code (1 : Nat) (Option.none : Option Jvm.ClassFile.FieldType)).before args0 about1 = true := code_word (m := ⟨0, 0⟩) (meth := k0m0) (c := k0c0) (by decide +kernel) rfl rfl rfl (by decide +kernel)
set_option maxRecDepth 65536 in
theorem w_c6 : (Jvm.Cond.code ({ cls := "java/lang/Integer", name := "numberOfTrailingZeros", desc := "(I)I" } : Jvm.MethodName) jdk_33_method_48_code (2 : Nat) (Option.some Jvm.ClassFile.FieldType.int)).before args0 about1 = true := code_word (m := ⟨8, 0⟩) (meth := k8m0) (c := k8c0) (by decide +kernel) rfl rfl rfl (by decide +kernel)
set_option maxRecDepth 65536 in
theorem w_c7 : (Jvm.Cond.code ({ cls := "quillvax/store/LongMap", name := "remove", desc := "(J)J" } : Jvm.MethodName) prog_39_method_5_code (8 : Nat) (Option.some Jvm.ClassFile.FieldType.long)).before args0 about1 = true := code_word (m := ⟨2, 3⟩) (meth := k2m3) (c := k2c3) (by decide +kernel) rfl rfl rfl (by decide +kernel)
set_option maxRecDepth 65536 in
theorem w_c8 : (Jvm.Cond.code ({ cls := "quillvax/store/LongMap", name := "slotOf", desc := "(J)I" } : Jvm.MethodName) prog_39_method_6_code (5 : Nat) (Option.some Jvm.ClassFile.FieldType.int)).before args0 about1 = true := code_word (m := ⟨2, 4⟩) (meth := k2m4) (c := k2c4) (by decide +kernel) rfl rfl rfl (by decide +kernel)
set_option maxRecDepth 65536 in
theorem w_c9 : (Jvm.Cond.code ({ cls := "quillvax/store/LongMap", name := "homeOf", desc := "(J)I" } : Jvm.MethodName) prog_39_method_9_code (3 : Nat) (Option.some Jvm.ClassFile.FieldType.int)).before args0 about1 = true := code_word (m := ⟨2, 6⟩) (meth := k2m6) (c := k2c6) (by decide +kernel) rfl rfl rfl (by decide +kernel)
set_option maxRecDepth 65536 in
theorem w_c10 : (Jvm.Cond.code ({ cls := "quillvax/store/LongMap", name := "get", desc := "(J)J" } : Jvm.MethodName) prog_39_method_2_code (3 : Nat) (Option.some Jvm.ClassFile.FieldType.long)).before args0 about1 = true := code_word (m := ⟨2, 1⟩) (meth := k2m1) (c := k2c1) (by decide +kernel) rfl rfl rfl (by decide +kernel)
set_option maxRecDepth 65536 in
theorem w_c11 : (Jvm.Cond.code ({ cls := "quillvax/store/LongMap", name := "put", desc := "(JJ)V" } : Jvm.MethodName) prog_39_method_3_code (6 : Nat) (Option.none : Option Jvm.ClassFile.FieldType)).before args0 about1 = true := code_word (m := ⟨2, 2⟩) (meth := k2m2) (c := k2c2) (by decide +kernel) rfl rfl rfl (by decide +kernel)
set_option maxRecDepth 65536 in
theorem w_c12 : (Jvm.Cond.code ({ cls := "quillvax/store/LongMap", name := "checkValue", desc := "(J)V" } : Jvm.MethodName) prog_39_method_10_code (2 : Nat) (Option.none : Option Jvm.ClassFile.FieldType)).before args0 about1 = true := code_word (m := ⟨2, 7⟩) (meth := k2m7) (c := k2c7) (by decide +kernel) rfl rfl rfl (by decide +kernel)
set_option maxRecDepth 65536 in
theorem w_c13 : (Jvm.Cond.code ({ cls := "quillvax/store/LongMap", name := "putNew", desc := "(IJJ)V" } : Jvm.MethodName) prog_39_method_7_code (7 : Nat) (Option.none : Option Jvm.ClassFile.FieldType)).before args0 about1 = true := code_word (m := ⟨2, 5⟩) (meth := k2m5) (c := k2c5) (by decide +kernel) rfl rfl rfl (by decide +kernel)
def codes1 : List Jvm.Cond := [Jvm.Cond.code x code maxLocals ret, Jvm.Cond.code ({ cls := "quillvax/store/LongMapRemovePinLaw", name := "inverse", desc := "(J)J" } : Jvm.MethodName) method_2_code (4 : Nat) (Option.some Jvm.ClassFile.FieldType.long), Jvm.Cond.code ({ cls := "quillvax/store/LongMapRemovePinLaw", name := "key", desc := "(IJJI)J" } : Jvm.MethodName) method_3_code (10 : Nat) (Option.some Jvm.ClassFile.FieldType.long), Jvm.Cond.code ({ cls := "quillvax/store/LongMapRemovePinLaw", name := "value", desc := "(JI)J" } : Jvm.MethodName) method_4_code (3 : Nat) (Option.some Jvm.ClassFile.FieldType.long), Jvm.Cond.code ({ cls := "quillvax/store/LongMap", name := "<init>", desc := "()V" } : Jvm.MethodName) prog_39_method_1_code (1 : Nat) (Option.none : Option Jvm.ClassFile.FieldType), Jvm.Cond.code ({ cls := "java/lang/Object", name := "<init>", desc := "()V" } : Jvm.MethodName) object_method_1_code (1 : Nat) (Option.none : Option Jvm.ClassFile.FieldType), Jvm.Cond.code ({ cls := "java/lang/Integer", name := "numberOfTrailingZeros", desc := "(I)I" } : Jvm.MethodName) jdk_33_method_48_code (2 : Nat) (Option.some Jvm.ClassFile.FieldType.int), Jvm.Cond.code ({ cls := "quillvax/store/LongMap", name := "remove", desc := "(J)J" } : Jvm.MethodName) prog_39_method_5_code (8 : Nat) (Option.some Jvm.ClassFile.FieldType.long), Jvm.Cond.code ({ cls := "quillvax/store/LongMap", name := "slotOf", desc := "(J)I" } : Jvm.MethodName) prog_39_method_6_code (5 : Nat) (Option.some Jvm.ClassFile.FieldType.int), Jvm.Cond.code ({ cls := "quillvax/store/LongMap", name := "homeOf", desc := "(J)I" } : Jvm.MethodName) prog_39_method_9_code (3 : Nat) (Option.some Jvm.ClassFile.FieldType.int), Jvm.Cond.code ({ cls := "quillvax/store/LongMap", name := "get", desc := "(J)J" } : Jvm.MethodName) prog_39_method_2_code (3 : Nat) (Option.some Jvm.ClassFile.FieldType.long), Jvm.Cond.code ({ cls := "quillvax/store/LongMap", name := "put", desc := "(JJ)V" } : Jvm.MethodName) prog_39_method_3_code (6 : Nat) (Option.none : Option Jvm.ClassFile.FieldType), Jvm.Cond.code ({ cls := "quillvax/store/LongMap", name := "checkValue", desc := "(J)V" } : Jvm.MethodName) prog_39_method_10_code (2 : Nat) (Option.none : Option Jvm.ClassFile.FieldType), Jvm.Cond.code ({ cls := "quillvax/store/LongMap", name := "putNew", desc := "(IJJ)V" } : Jvm.MethodName) prog_39_method_7_code (7 : Nat) (Option.none : Option Jvm.ClassFile.FieldType)]
set_option maxRecDepth 65536 in
theorem codes_eq : words1.filter isCode = codes1 := rfl
theorem w_codes : ∀ c ∈ words1.filter isCode, c.before args0 about1 = true := by
  rw [codes_eq]
  intro c hc
  simp only [codes1, List.mem_cons, List.not_mem_nil, or_false] at hc
  rcases hc with rfl | rfl | rfl | rfl | rfl | rfl | rfl | rfl | rfl | rfl | rfl | rfl | rfl | rfl
  · exact w_c0
  · exact w_c1
  · exact w_c2
  · exact w_c3
  · exact w_c4
  · exact w_c5
  · exact w_c6
  · exact w_c7
  · exact w_c8
  · exact w_c9
  · exact w_c10
  · exact w_c11
  · exact w_c12
  · exact w_c13
set_option maxRecDepth 65536 in
theorem w_t1 : (words1.take 24).all (fun c => isCode c || c.before args0 about1) = true := by decide +kernel
set_option maxRecDepth 65536 in
theorem w_t2 : ((words1.drop 24).take 24).all (fun c => isCode c || c.before args0 about1) = true := by decide +kernel
set_option maxRecDepth 65536 in
theorem w_t3 : ((words1.drop 24).drop 24).all (fun c => isCode c || c.before args0 about1) = true := by decide +kernel
theorem w_tables : (allAtoms (Jvm.Cond.code x code maxLocals ret :: tables_1)).before args0 about1 = true := by
  rw [allAtoms_all]
  show words1.all (fun c => c.before args0 about1) = true
  refine all_split ?_ w_codes
  rw [← List.take_append_drop 24 words1, List.all_append, w_t1, ← List.take_append_drop 24 (words1.drop 24), List.all_append, w_t2, w_t3]
  rfl
set_option maxRecDepth 65536 in
theorem w_case : (Jvm.Cond.and given_1 narrow_1).before args0 about1 = true := by decide +kernel
theorem w_applies : (headSpec (Jvm.Cond.code x code maxLocals ret :: tables_1) room_1).applies x e0.platform about1 = true :=
  (Spec.applies_iff w_frames).mpr ⟨w_running, w_runnable, w_alone, w_named, w_hears, w_ripe, w_room, w_tables⟩
theorem atStart : AtStart classFile x code maxLocals ret World_1 tables_1 room_1 Calls_1 rest_1 Pre_1 launch0 p0 e0 about1 theMethod args0 below0 :=
  ⟨lists_1, trivial, launch0.admits_env _ _ _, launch0.least_env, fairChoices_fair.cas, fairChoices_fair.clock, w_frames, w_args, w_heap, w_applies, trivial, trivial, w_case⟩
end start1
theorem witness_1 : WitnessClaimed_1 := ⟨start1.p0, start1.e0, start1.about1, start1.theMethod, start1.args0, start1.below0, start1.atStart⟩
end Jvm.Pilot.@@N@@
