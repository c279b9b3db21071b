import JvmDerived
import JvmDerived.Pilot.@@N@@Statement
import JvmDerived.Pilot.@@N@@Code
set_option linter.unusedVariables false
set_option linter.unusedSimpArgs false
namespace Jvm.Pilot.@@N@@
open Jvm Jvm.ClassFile Sem Op Lib Jvm.Free Jvm.Stand Jvm.LawKit Jvm.RoadKit Bundle Jvm.Pilot.@@N@@.Jvm.D
section OwnHead
variable {p : Program} {l : Launch} {e : Env} {R : Room} {s : State} {m : MethodId} {args : Array Value} {below : List Frame} {meth : Method} {c : Code} {T : State} {locs : List Loc} {cells slots : Nat}
theorem own_retI (X : Stand p l e R s m args below meth c T locs cells slots) (hx : p.tables.exec = Jvm.exec) {pc : Nat} {Ls : Array Slot} {z : Int32} {rest : List Value} (hret : meth.sig.returnType = some .int) (hd : decode c.code pc = .ok (.ireturn, 1)) {fs : List Frame}
    (hl : ∀ (f : JFrame) (acts : List Action), f.method = m → f.locked = none → f.entered = [] → (doReturn e (T.setTop f) acts (some (.int z))).1 = T.setFrames fs) : Steps p.tables e below (T.setTop (mkF m pc Ls (.int z :: rest))) (T.setFrames fs) := by
  have hm' : T.vm.method? m = some meth := X.method'
  have hn : narrow .int (.int z) = .int z := rfl
  show Steps p.tables e below (T.setTop { method := m, pc := pc, locals := Ls, stack := _ :: rest, locked := none }) _
  jvm_step X.here [X.here.top, hx, hd, hm', hret, hn]
  first | (intro acts; rw [hl _ acts rfl rfl rfl]) | rw [hl _ _ rfl rfl rfl]
  exact Steps.refl _
/-- the run comes to an end that P speaks of -/
abbrev own_Fin (tb : Tables) (e : Env) (below : List Frame) (P : Outcome → State → Prop) (F : State) : Prop := ∃ s₂ o, Steps tb e below F s₂ ∧ s₂.status = .running ∧ Ended s₂ below o ∧ P o s₂
theorem own_go {tb : Tables} {P : Outcome → State → Prop} {F F' : State} (h : ∀ t, Steps tb e below F' t → Steps tb e below F t) (k : own_Fin tb e below P F') : own_Fin tb e below P F := by
  obtain ⟨s₂, o, h1, h2⟩ := k
  exact ⟨s₂, o, h _ h1, h2⟩
theorem own_eqI {args : Array Value} {first s : State} {o : Option Outcome} {idx : List Nat} {a : Term} {k : Int32} (h : (Cond.eq a (.int k)).value args first o s idx = some true) : a.eval args first o idx s = some (.int k) := by
  simp only [Cond.value, Term.eval] at h
  cases ht : a.eval args first o idx s with
  | none => simp [ht] at h
  | some x => cases x <;> simp [ht] at h ⊢; exact h
theorem own_eqJ {args : Array Value} {first s : State} {o : Option Outcome} {idx : List Nat} {a : Term} {k : Int64} (h : (Cond.eq a (.long k)).value args first o s idx = some true) : a.eval args first o idx s = some (.long k) := by
  simp only [Cond.value, Term.eval] at h
  cases ht : a.eval args first o idx s with
  | none => simp [ht] at h
  | some x => cases x <;> simp [ht] at h ⊢; exact h
theorem own_fld {args : Array Value} {Z : State} {t : Term} {a : Addr} {C n d : String} {v : Value} (ht : t.eval args Z none [] Z = some (.ref a)) (h : (Term.field t C n d).eval args Z none [] Z = some v) : Fld Z Z.heap a C n d v := Fld.start ((fld_at ht).symm.trans h)
theorem own_selp {s : State} {args : Array Value} {y : MethodName} {n : Nat} (wi : (Cond.instantiable y.cls n).before args s = true) (hpriv : s.PrivateAt y) (hinst : (Cond.instanceMethod y).before args s = true) (hy : y.cls ≠ "java/lang/invoke/MethodHandle" ∧ y.cls ≠ "java/lang/invoke/VarHandle") : (Cond.selects y.cls y y).before args s = true := by
  obtain ⟨c, k, h1, h2, -, h4, -⟩ := Cond.instantiable_spec wi
  exact selects_self_of_private h1 h2 (Bool.or_eq_false_iff.mp h4).1 hpriv hinst hy
theorem own_len {args : Array Value} {first s : State} {o : Option Outcome} {idx : List Nat} {t : Term} {a : Addr} {cl : Cell} {n : Int32} (h : (Term.length t).eval args first o idx s = some (.int n)) (ht : t.eval args first o idx s = some (.ref a)) (hc : s.arrayAt? a = some cl) : cl.slots.size < 2 ^ 31 ∧ cl.slots.size.toInt32 = n := by
  simp only [Term.eval, ht, hc, Option.bind_eq_bind, Option.bind_some] at h
  split at h
  · rename_i q
    exact ⟨q, by simpa using h⟩
  · simp at h
end OwnHead
theorem d1_0 : decode method_3_code 0 = .ok (.iload_n 0, 1) := by decide +kernel
theorem d1_1 : decode method_3_code 1 = .ok (.ifCond .ne 7, 3) := by decide +kernel
theorem d1_4 : decode method_3_code 4 = .ok (.getstatic 20, 3) := by decide +kernel
theorem d1_7 : decode method_3_code 7 = .ok (.areturn, 1) := by decide +kernel
theorem d1_8 : decode method_3_code 8 = .ok (.iload_n 0, 1) := by decide +kernel
theorem d1_9 : decode method_3_code 9 = .ok (.iconst 1, 1) := by decide +kernel
theorem d1_10 : decode method_3_code 10 = .ok (.if_icmp .ne 7, 3) := by decide +kernel
theorem d1_13 : decode method_3_code 13 = .ok (.getstatic 24, 3) := by decide +kernel
theorem d1_16 : decode method_3_code 16 = .ok (.areturn, 1) := by decide +kernel
theorem d1_17 : decode method_3_code 17 = .ok (.iload_n 0, 1) := by decide +kernel
theorem d1_18 : decode method_3_code 18 = .ok (.iconst 2, 1) := by decide +kernel
theorem d1_19 : decode method_3_code 19 = .ok (.if_icmp .ne 7, 3) := by decide +kernel
theorem d1_22 : decode method_3_code 22 = .ok (.getstatic 27, 3) := by decide +kernel
theorem d1_25 : decode method_3_code 25 = .ok (.areturn, 1) := by decide +kernel
theorem d1_26 : decode method_3_code 26 = .ok (.iload_n 0, 1) := by decide +kernel
theorem d1_27 : decode method_3_code 27 = .ok (.iconst 3, 1) := by decide +kernel
theorem d1_28 : decode method_3_code 28 = .ok (.if_icmp .ne 7, 3) := by decide +kernel
theorem d1_31 : decode method_3_code 31 = .ok (.getstatic 30, 3) := by decide +kernel
theorem d1_34 : decode method_3_code 34 = .ok (.areturn, 1) := by decide +kernel
theorem d1_35 : decode method_3_code 35 = .ok (.iload_n 0, 1) := by decide +kernel
theorem d1_36 : decode method_3_code 36 = .ok (.iconst 4, 1) := by decide +kernel
theorem d1_37 : decode method_3_code 37 = .ok (.if_icmp .ne 7, 3) := by decide +kernel
theorem d1_40 : decode method_3_code 40 = .ok (.getstatic 33, 3) := by decide +kernel
theorem d1_43 : decode method_3_code 43 = .ok (.areturn, 1) := by decide +kernel
theorem d1_44 : decode method_3_code 44 = .ok (.iload_n 0, 1) := by decide +kernel
theorem d1_45 : decode method_3_code 45 = .ok (.iconst 5, 1) := by decide +kernel
theorem d1_46 : decode method_3_code 46 = .ok (.if_icmp .ne 7, 3) := by decide +kernel
theorem d1_49 : decode method_3_code 49 = .ok (.getstatic 36, 3) := by decide +kernel
theorem d1_52 : decode method_3_code 52 = .ok (.areturn, 1) := by decide +kernel
theorem d1_53 : decode method_3_code 53 = .ok (.iload_n 0, 1) := by decide +kernel
theorem d1_54 : decode method_3_code 54 = .ok (.bipush 6, 2) := by decide +kernel
theorem d1_56 : decode method_3_code 56 = .ok (.if_icmp .ne 7, 3) := by decide +kernel
theorem d1_59 : decode method_3_code 59 = .ok (.getstatic 39, 3) := by decide +kernel
theorem d1_62 : decode method_3_code 62 = .ok (.areturn, 1) := by decide +kernel
theorem d1_63 : decode method_3_code 63 = .ok (.iload_n 0, 1) := by decide +kernel
theorem d1_64 : decode method_3_code 64 = .ok (.bipush 7, 2) := by decide +kernel
theorem d1_66 : decode method_3_code 66 = .ok (.if_icmp .ne 7, 3) := by decide +kernel
theorem d1_69 : decode method_3_code 69 = .ok (.getstatic 42, 3) := by decide +kernel
theorem d1_72 : decode method_3_code 72 = .ok (.areturn, 1) := by decide +kernel
theorem d1_73 : decode method_3_code 73 = .ok (.getstatic 45, 3) := by decide +kernel
theorem d1_76 : decode method_3_code 76 = .ok (.areturn, 1) := by decide +kernel
theorem d2_0 : decode prog_39_method_8_code 0 = .ok (.aload_n 0, 1) := by decide +kernel
theorem d2_1 : decode prog_39_method_8_code 1 = .ok (.getstatic 16, 3) := by decide +kernel
theorem d2_4 : decode prog_39_method_8_code 4 = .ok (.if_acmp .eq 31, 3) := by decide +kernel
theorem d2_7 : decode prog_39_method_8_code 7 = .ok (.aload_n 0, 1) := by decide +kernel
theorem d2_8 : decode prog_39_method_8_code 8 = .ok (.getstatic 22, 3) := by decide +kernel
theorem d2_11 : decode prog_39_method_8_code 11 = .ok (.if_acmp .eq 24, 3) := by decide +kernel
theorem d2_14 : decode prog_39_method_8_code 14 = .ok (.aload_n 0, 1) := by decide +kernel
theorem d2_15 : decode prog_39_method_8_code 15 = .ok (.getstatic 25, 3) := by decide +kernel
theorem d2_18 : decode prog_39_method_8_code 18 = .ok (.if_acmp .eq 17, 3) := by decide +kernel
theorem d2_21 : decode prog_39_method_8_code 21 = .ok (.aload_n 0, 1) := by decide +kernel
theorem d2_22 : decode prog_39_method_8_code 22 = .ok (.getstatic 28, 3) := by decide +kernel
theorem d2_25 : decode prog_39_method_8_code 25 = .ok (.if_acmp .eq 10, 3) := by decide +kernel
theorem d2_28 : decode prog_39_method_8_code 28 = .ok (.aload_n 0, 1) := by decide +kernel
theorem d2_29 : decode prog_39_method_8_code 29 = .ok (.getstatic 10, 3) := by decide +kernel
theorem d2_32 : decode prog_39_method_8_code 32 = .ok (.if_acmp .ne 7, 3) := by decide +kernel
theorem d2_35 : decode prog_39_method_8_code 35 = .ok (.iconst 1, 1) := by decide +kernel
theorem d2_36 : decode prog_39_method_8_code 36 = .ok (.goto 4, 3) := by decide +kernel
theorem d2_39 : decode prog_39_method_8_code 39 = .ok (.iconst 0, 1) := by decide +kernel
theorem d2_40 : decode prog_39_method_8_code 40 = .ok (.ireturn, 1) := by decide +kernel
theorem own_pn0 : plainName "com/example/calends/calends/jats/DatePlaceDisplaysTextPinLaw" = true := by first | (simp [plainName, overriddenIn]; done) | decide +kernel
theorem own_pn1 : plainName "com/example/calends/calends/jats/DatePlace" = true := by first | (simp [plainName, overriddenIn]; done) | decide +kernel
theorem own_pd0 : parseMethodDescriptor "(I)Lcom/example/calends/calends/jats/DatePlace;" = some ⟨[.int], some (.object "com/example/calends/calends/jats/DatePlace")⟩ := by decide +kernel
theorem own_pd1 : parseMethodDescriptor "()Z" = some ⟨[], some .boolean⟩ := by decide +kernel
def Q_own_pick (Z : State) (p1 : Int32) (v0 : Addr) (v1 : Addr) (v2 : Addr) (v3 : Addr) (v4 : Addr) (v5 : Addr) (v6 : Addr) (v7 : Addr) (v8 : Addr) (h0 : Heap) (n0 : Nat) (v : Option Value) (h : Heap) (L : List Loc) : Prop := v = some (.ref (if p1 = (0 : Int32) then v0 else (if p1 = (1 : Int32) then v1 else (if p1 = (2 : Int32) then v2 else (if p1 = (3 : Int32) then v3 else (if p1 = (4 : Int32) then v4 else (if p1 = (5 : Int32) then v5 else (if p1 = (6 : Int32) then v6 else (if p1 = (7 : Int32) then v7 else v8))))))))) ∧ Fr n0 L ∧ h = h0
theorem ef_own_pick (m : MethodId) (x0 : Int32) : entryFrame m #[(.int x0)] 1 = mkF m 0 #[.val (.int x0)] [] := by first | (simp [entryFrame, mkF, argsToLocals, Value.category]; done) | rfl
set_option maxRecDepth 65536 in
set_option maxHeartbeats 40000000 in
theorem own_pick (l : Launch) (Z : State) (a0 : Array Value) (hw : ∀ d ∈ tables_1, d.before a0 Z = true) (ws : List Jvm.Cond) (p1 : Int32) (v0 : Addr) (v1 : Addr) (v2 : Addr) (v3 : Addr) (v4 : Addr) (v5 : Addr) (v6 : Addr) (v7 : Addr) (v8 : Addr) (h0 : Heap) (n0 : Nat) (Z0 : n0 ≤ h0.size) (S0 : Sta Z h0 "com/example/calends/calends/jats/DatePlace" "PUB_DATE" "Lcom/example/calends/calends/jats/DatePlace;" (.ref v0)) (S1 : Sta Z h0 "com/example/calends/calends/jats/DatePlace" "DATE" "Lcom/example/calends/calends/jats/DatePlace;" (.ref v1)) (S2 : Sta Z h0 "com/example/calends/calends/jats/DatePlace" "DATE_IN_CITATION" "Lcom/example/calends/calends/jats/DatePlace;" (.ref v2)) (S3 : Sta Z h0 "com/example/calends/calends/jats/DatePlace" "ELEMENT_CITATION" "Lcom/example/calends/calends/jats/DatePlace;" (.ref v3)) (S4 : Sta Z h0 "com/example/calends/calends/jats/DatePlace" "MIXED_CITATION" "Lcom/example/calends/calends/jats/DatePlace;" (.ref v4)) (S5 : Sta Z h0 "com/example/calends/calends/jats/DatePlace" "NLM_CITATION" "Lcom/example/calends/calends/jats/DatePlace;" (.ref v5)) (S6 : Sta Z h0 "com/example/calends/calends/jats/DatePlace" "PRODUCT" "Lcom/example/calends/calends/jats/DatePlace;" (.ref v6)) (S7 : Sta Z h0 "com/example/calends/calends/jats/DatePlace" "RELATED_ARTICLE" "Lcom/example/calends/calends/jats/DatePlace;" (.ref v7)) (S8 : Sta Z h0 "com/example/calends/calends/jats/DatePlace" "RELATED_OBJECT" "Lcom/example/calends/calends/jats/DatePlace;" (.ref v8)) :
    MetFree l (⟨"com/example/calends/calends/jats/DatePlaceDisplaysTextPinLaw", "pick", "(I)Lcom/example/calends/calends/jats/DatePlace;"⟩ : MethodName) (head1 (Jvm.Cond.code (⟨"com/example/calends/calends/jats/DatePlaceDisplaysTextPinLaw", "pick", "(I)Lcom/example/calends/calends/jats/DatePlace;"⟩ : MethodName) method_3_code 1 (some (.object "com/example/calends/calends/jats/DatePlace")) :: ws) ({ frames := 0, cells := 0, slots := 0, locals := 0 } : Room)) (fun a U => a = #[(.int p1)] ∧ Z.Warmed39 U.vm ∧ U.heap = h0) (fun _ _ _ _ _ => True) (fun _ U o U' => ∃ v L, o = .returned v ∧ Q_own_pick Z p1 v0 v1 v2 v3 v4 v5 v6 v7 v8 h0 n0 v U'.heap L ∧ FrameEnd U o U' L ({ frames := 0, cells := 0, slots := 0, locals := 0 } : Room).cells ({ frames := 0, cells := 0, slots := 0, locals := 0 } : Room).slots) := by
  refine MetFree.of_bodySF (plainFor_of_name own_pn0) hisR ?_
  intro p e s m args below meth c s₁ Bd hml0 hP hK
  obtain ⟨rfl, hZ, hh⟩ := hP
  have hx := Bd.exec
  have hby := Bd.bytes
  have hml : c.maxLocals = 1 := hml0
  have hown : s.vm.findClass "com/example/calends/calends/jats/DatePlaceDisplaysTextPinLaw" = some m.cls := findClass_of_methodNamed Bd.named
  have hnm := (name_of_methodNamed Bd.named Bd.method).1
  have X0 : Stand p l e ({ frames := 0, cells := 0, slots := 0, locals := 0 } : Room) s m #[(.int p1)] below meth c s₁ [] 0 0 := Stand.of_body Bd
  have e0 : s₁.heap = h0 := by rw [← hh, Bd.state]; rfl
  have N0 := Fr.nil n0
  show own_Fin p.tables e below _ (s₁.setTop (entryFrame m #[(.int p1)] 1))
  refine own_go (fun _ k => castTop (ef_own_pick m p1) k) ?_
  show own_Fin p.tables e below _ (s₁.setTop (mkF m 0 #[.val (.int p1)] []))
  refine own_go (fun _ k => XS.iloadN X0.here hx rfl (hb hby d1_0) rfl k) ?_
  show own_Fin p.tables e below _ (s₁.setTop (mkF m 1 #[.val (.int p1)] [(.int p1)]))
  by_cases hc1 : p1 = (0 : Int32)
  · refine own_go (fun _ k => XS.ifNo X0.here hx rfl (hb hby d1_1) rfl ((if0 _ _).trans (teq hc1).2) k) ?_
    show own_Fin p.tables e below _ (s₁.setTop (mkF m 4 #[.val (.int p1)] []))
    obtain ⟨T1, X1, e1, st1⟩ := getS2 X0 hx hZ hown (host := "") (Or.inl (hw _ (List.mem_of_getElem? (i := 5) rfl))) Via.refl e0 S0 (g := (mkF m 4 #[.val (.int p1)] [])) rfl (hb hby d1_4)
    refine own_go st1 ?_
    show own_Fin p.tables e below _ (T1.setTop (mkF m 7 #[.val (.int p1)] [(.ref v0)]))
    obtain ⟨fs, hr, hrun, hended, hW, hsame⟩ := X1.leave (v := some (.ref v0)) (fun h => by rw [Bd.returns] at h; cases h)
    refine ⟨_, _, ?_, hrun, hended, _, _, rfl, ?_, ⟨_, rfl⟩, hW, hsame.mono (by decide) (by decide)⟩
    · jvm_step X1.here [X1.here.top, hx, (hb hby d1_7), X1.method', Bd.returns, Value.isRef, FieldType.isReference]
      first | (intro acts; rw [hr _ acts rfl rfl rfl]) | rw [hr _ _ rfl rfl rfl]
      exact Steps.refl _
    · show Q_own_pick Z p1 v0 v1 v2 v3 v4 v5 v6 v7 v8 h0 n0 _ T1.heap _
      rw [e1]
      exact ⟨(by simp [hc1]), N0, rfl⟩
  · refine own_go (fun _ k => XS.ifYes X0.here hx rfl (pc0 := 1) (pc' := 8) rfl (hb hby d1_1) rfl ((if0 _ _).trans (feq hc1).2) (by decide) (by decide) k) ?_
    show own_Fin p.tables e below _ (s₁.setTop (mkF m 8 #[.val (.int p1)] []))
    refine own_go (fun _ k => XS.iloadN X0.here hx rfl (hb hby d1_8) rfl k) ?_
    show own_Fin p.tables e below _ (s₁.setTop (mkF m 9 #[.val (.int p1)] [(.int p1)]))
    refine own_go (fun _ k => XS.iconst X0.here hx rfl (hb hby d1_9) k) ?_
    show own_Fin p.tables e below _ (s₁.setTop (mkF m 10 #[.val (.int p1)] [(.int (1 : Int32)), (.int p1)]))
    by_cases hc10 : p1 = (1 : Int32)
    · refine own_go (fun _ k => XS.icmpNo X0.here hx rfl (hb hby d1_10) rfl (teq hc10).2 k) ?_
      show own_Fin p.tables e below _ (s₁.setTop (mkF m 13 #[.val (.int p1)] []))
      obtain ⟨T2, X2, e2, st2⟩ := getS2 X0 hx hZ hown (host := "") (Or.inl (hw _ (List.mem_of_getElem? (i := 26) rfl))) Via.refl e0 S1 (g := (mkF m 13 #[.val (.int p1)] [])) rfl (hb hby d1_13)
      refine own_go st2 ?_
      show own_Fin p.tables e below _ (T2.setTop (mkF m 16 #[.val (.int p1)] [(.ref v1)]))
      obtain ⟨fs, hr, hrun, hended, hW, hsame⟩ := X2.leave (v := some (.ref v1)) (fun h => by rw [Bd.returns] at h; cases h)
      refine ⟨_, _, ?_, hrun, hended, _, _, rfl, ?_, ⟨_, rfl⟩, hW, hsame.mono (by decide) (by decide)⟩
      · jvm_step X2.here [X2.here.top, hx, (hb hby d1_16), X2.method', Bd.returns, Value.isRef, FieldType.isReference]
        first | (intro acts; rw [hr _ acts rfl rfl rfl]) | rw [hr _ _ rfl rfl rfl]
        exact Steps.refl _
      · show Q_own_pick Z p1 v0 v1 v2 v3 v4 v5 v6 v7 v8 h0 n0 _ T2.heap _
        rw [e2]
        exact ⟨(by simp [hc1, hc10]), N0, rfl⟩
    · refine own_go (fun _ k => XS.icmpYes X0.here hx rfl (pc0 := 10) (pc' := 17) rfl (hb hby d1_10) rfl (feq hc10).2 (by decide) (by decide) k) ?_
      show own_Fin p.tables e below _ (s₁.setTop (mkF m 17 #[.val (.int p1)] []))
      refine own_go (fun _ k => XS.iloadN X0.here hx rfl (hb hby d1_17) rfl k) ?_
      show own_Fin p.tables e below _ (s₁.setTop (mkF m 18 #[.val (.int p1)] [(.int p1)]))
      refine own_go (fun _ k => XS.iconst X0.here hx rfl (hb hby d1_18) k) ?_
      show own_Fin p.tables e below _ (s₁.setTop (mkF m 19 #[.val (.int p1)] [(.int (2 : Int32)), (.int p1)]))
      by_cases hc19 : p1 = (2 : Int32)
      · refine own_go (fun _ k => XS.icmpNo X0.here hx rfl (hb hby d1_19) rfl (teq hc19).2 k) ?_
        show own_Fin p.tables e below _ (s₁.setTop (mkF m 22 #[.val (.int p1)] []))
        obtain ⟨T3, X3, e3, st3⟩ := getS2 X0 hx hZ hown (host := "") (Or.inl (hw _ (List.mem_of_getElem? (i := 25) rfl))) Via.refl e0 S2 (g := (mkF m 22 #[.val (.int p1)] [])) rfl (hb hby d1_22)
        refine own_go st3 ?_
        show own_Fin p.tables e below _ (T3.setTop (mkF m 25 #[.val (.int p1)] [(.ref v2)]))
        obtain ⟨fs, hr, hrun, hended, hW, hsame⟩ := X3.leave (v := some (.ref v2)) (fun h => by rw [Bd.returns] at h; cases h)
        refine ⟨_, _, ?_, hrun, hended, _, _, rfl, ?_, ⟨_, rfl⟩, hW, hsame.mono (by decide) (by decide)⟩
        · jvm_step X3.here [X3.here.top, hx, (hb hby d1_25), X3.method', Bd.returns, Value.isRef, FieldType.isReference]
          first | (intro acts; rw [hr _ acts rfl rfl rfl]) | rw [hr _ _ rfl rfl rfl]
          exact Steps.refl _
        · show Q_own_pick Z p1 v0 v1 v2 v3 v4 v5 v6 v7 v8 h0 n0 _ T3.heap _
          rw [e3]
          exact ⟨(by simp [hc1, hc10, hc19]), N0, rfl⟩
      · refine own_go (fun _ k => XS.icmpYes X0.here hx rfl (pc0 := 19) (pc' := 26) rfl (hb hby d1_19) rfl (feq hc19).2 (by decide) (by decide) k) ?_
        show own_Fin p.tables e below _ (s₁.setTop (mkF m 26 #[.val (.int p1)] []))
        refine own_go (fun _ k => XS.iloadN X0.here hx rfl (hb hby d1_26) rfl k) ?_
        show own_Fin p.tables e below _ (s₁.setTop (mkF m 27 #[.val (.int p1)] [(.int p1)]))
        refine own_go (fun _ k => XS.iconst X0.here hx rfl (hb hby d1_27) k) ?_
        show own_Fin p.tables e below _ (s₁.setTop (mkF m 28 #[.val (.int p1)] [(.int (3 : Int32)), (.int p1)]))
        by_cases hc28 : p1 = (3 : Int32)
        · refine own_go (fun _ k => XS.icmpNo X0.here hx rfl (hb hby d1_28) rfl (teq hc28).2 k) ?_
          show own_Fin p.tables e below _ (s₁.setTop (mkF m 31 #[.val (.int p1)] []))
          obtain ⟨T4, X4, e4, st4⟩ := getS2 X0 hx hZ hown (host := "") (Or.inl (hw _ (List.mem_of_getElem? (i := 23) rfl))) Via.refl e0 S3 (g := (mkF m 31 #[.val (.int p1)] [])) rfl (hb hby d1_31)
          refine own_go st4 ?_
          show own_Fin p.tables e below _ (T4.setTop (mkF m 34 #[.val (.int p1)] [(.ref v3)]))
          obtain ⟨fs, hr, hrun, hended, hW, hsame⟩ := X4.leave (v := some (.ref v3)) (fun h => by rw [Bd.returns] at h; cases h)
          refine ⟨_, _, ?_, hrun, hended, _, _, rfl, ?_, ⟨_, rfl⟩, hW, hsame.mono (by decide) (by decide)⟩
          · jvm_step X4.here [X4.here.top, hx, (hb hby d1_34), X4.method', Bd.returns, Value.isRef, FieldType.isReference]
            first | (intro acts; rw [hr _ acts rfl rfl rfl]) | rw [hr _ _ rfl rfl rfl]
            exact Steps.refl _
          · show Q_own_pick Z p1 v0 v1 v2 v3 v4 v5 v6 v7 v8 h0 n0 _ T4.heap _
            rw [e4]
            exact ⟨(by simp [hc1, hc10, hc19, hc28]), N0, rfl⟩
        · refine own_go (fun _ k => XS.icmpYes X0.here hx rfl (pc0 := 28) (pc' := 35) rfl (hb hby d1_28) rfl (feq hc28).2 (by decide) (by decide) k) ?_
          show own_Fin p.tables e below _ (s₁.setTop (mkF m 35 #[.val (.int p1)] []))
          refine own_go (fun _ k => XS.iloadN X0.here hx rfl (hb hby d1_35) rfl k) ?_
          show own_Fin p.tables e below _ (s₁.setTop (mkF m 36 #[.val (.int p1)] [(.int p1)]))
          refine own_go (fun _ k => XS.iconst X0.here hx rfl (hb hby d1_36) k) ?_
          show own_Fin p.tables e below _ (s₁.setTop (mkF m 37 #[.val (.int p1)] [(.int (4 : Int32)), (.int p1)]))
          by_cases hc37 : p1 = (4 : Int32)
          · refine own_go (fun _ k => XS.icmpNo X0.here hx rfl (hb hby d1_37) rfl (teq hc37).2 k) ?_
            show own_Fin p.tables e below _ (s₁.setTop (mkF m 40 #[.val (.int p1)] []))
            obtain ⟨T5, X5, e5, st5⟩ := getS2 X0 hx hZ hown (host := "") (Or.inl (hw _ (List.mem_of_getElem? (i := 29) rfl))) Via.refl e0 S4 (g := (mkF m 40 #[.val (.int p1)] [])) rfl (hb hby d1_40)
            refine own_go st5 ?_
            show own_Fin p.tables e below _ (T5.setTop (mkF m 43 #[.val (.int p1)] [(.ref v4)]))
            obtain ⟨fs, hr, hrun, hended, hW, hsame⟩ := X5.leave (v := some (.ref v4)) (fun h => by rw [Bd.returns] at h; cases h)
            refine ⟨_, _, ?_, hrun, hended, _, _, rfl, ?_, ⟨_, rfl⟩, hW, hsame.mono (by decide) (by decide)⟩
            · jvm_step X5.here [X5.here.top, hx, (hb hby d1_43), X5.method', Bd.returns, Value.isRef, FieldType.isReference]
              first | (intro acts; rw [hr _ acts rfl rfl rfl]) | rw [hr _ _ rfl rfl rfl]
              exact Steps.refl _
            · show Q_own_pick Z p1 v0 v1 v2 v3 v4 v5 v6 v7 v8 h0 n0 _ T5.heap _
              rw [e5]
              exact ⟨(by simp [hc1, hc10, hc19, hc28, hc37]), N0, rfl⟩
          · refine own_go (fun _ k => XS.icmpYes X0.here hx rfl (pc0 := 37) (pc' := 44) rfl (hb hby d1_37) rfl (feq hc37).2 (by decide) (by decide) k) ?_
            show own_Fin p.tables e below _ (s₁.setTop (mkF m 44 #[.val (.int p1)] []))
            refine own_go (fun _ k => XS.iloadN X0.here hx rfl (hb hby d1_44) rfl k) ?_
            show own_Fin p.tables e below _ (s₁.setTop (mkF m 45 #[.val (.int p1)] [(.int p1)]))
            refine own_go (fun _ k => XS.iconst X0.here hx rfl (hb hby d1_45) k) ?_
            show own_Fin p.tables e below _ (s₁.setTop (mkF m 46 #[.val (.int p1)] [(.int (5 : Int32)), (.int p1)]))
            by_cases hc46 : p1 = (5 : Int32)
            · refine own_go (fun _ k => XS.icmpNo X0.here hx rfl (hb hby d1_46) rfl (teq hc46).2 k) ?_
              show own_Fin p.tables e below _ (s₁.setTop (mkF m 49 #[.val (.int p1)] []))
              obtain ⟨T6, X6, e6, st6⟩ := getS2 X0 hx hZ hown (host := "") (Or.inl (hw _ (List.mem_of_getElem? (i := 32) rfl))) Via.refl e0 S5 (g := (mkF m 49 #[.val (.int p1)] [])) rfl (hb hby d1_49)
              refine own_go st6 ?_
              show own_Fin p.tables e below _ (T6.setTop (mkF m 52 #[.val (.int p1)] [(.ref v5)]))
              obtain ⟨fs, hr, hrun, hended, hW, hsame⟩ := X6.leave (v := some (.ref v5)) (fun h => by rw [Bd.returns] at h; cases h)
              refine ⟨_, _, ?_, hrun, hended, _, _, rfl, ?_, ⟨_, rfl⟩, hW, hsame.mono (by decide) (by decide)⟩
              · jvm_step X6.here [X6.here.top, hx, (hb hby d1_52), X6.method', Bd.returns, Value.isRef, FieldType.isReference]
                first | (intro acts; rw [hr _ acts rfl rfl rfl]) | rw [hr _ _ rfl rfl rfl]
                exact Steps.refl _
              · show Q_own_pick Z p1 v0 v1 v2 v3 v4 v5 v6 v7 v8 h0 n0 _ T6.heap _
                rw [e6]
                exact ⟨(by simp [hc1, hc10, hc19, hc28, hc37, hc46]), N0, rfl⟩
            · refine own_go (fun _ k => XS.icmpYes X0.here hx rfl (pc0 := 46) (pc' := 53) rfl (hb hby d1_46) rfl (feq hc46).2 (by decide) (by decide) k) ?_
              show own_Fin p.tables e below _ (s₁.setTop (mkF m 53 #[.val (.int p1)] []))
              refine own_go (fun _ k => XS.iloadN X0.here hx rfl (hb hby d1_53) rfl k) ?_
              show own_Fin p.tables e below _ (s₁.setTop (mkF m 54 #[.val (.int p1)] [(.int p1)]))
              refine own_go (fun _ k => XS.bipush X0.here hx rfl (hb hby d1_54) k) ?_
              show own_Fin p.tables e below _ (s₁.setTop (mkF m 56 #[.val (.int p1)] [(.int (6 : Int32)), (.int p1)]))
              by_cases hc56 : p1 = (6 : Int32)
              · refine own_go (fun _ k => XS.icmpNo X0.here hx rfl (hb hby d1_56) rfl (teq hc56).2 k) ?_
                show own_Fin p.tables e below _ (s₁.setTop (mkF m 59 #[.val (.int p1)] []))
                obtain ⟨T7, X7, e7, st7⟩ := getS2 X0 hx hZ hown (host := "") (Or.inl (hw _ (List.mem_of_getElem? (i := 31) rfl))) Via.refl e0 S6 (g := (mkF m 59 #[.val (.int p1)] [])) rfl (hb hby d1_59)
                refine own_go st7 ?_
                show own_Fin p.tables e below _ (T7.setTop (mkF m 62 #[.val (.int p1)] [(.ref v6)]))
                obtain ⟨fs, hr, hrun, hended, hW, hsame⟩ := X7.leave (v := some (.ref v6)) (fun h => by rw [Bd.returns] at h; cases h)
                refine ⟨_, _, ?_, hrun, hended, _, _, rfl, ?_, ⟨_, rfl⟩, hW, hsame.mono (by decide) (by decide)⟩
                · jvm_step X7.here [X7.here.top, hx, (hb hby d1_62), X7.method', Bd.returns, Value.isRef, FieldType.isReference]
                  first | (intro acts; rw [hr _ acts rfl rfl rfl]) | rw [hr _ _ rfl rfl rfl]
                  exact Steps.refl _
                · show Q_own_pick Z p1 v0 v1 v2 v3 v4 v5 v6 v7 v8 h0 n0 _ T7.heap _
                  rw [e7]
                  exact ⟨(by simp [hc1, hc10, hc19, hc28, hc37, hc46, hc56]), N0, rfl⟩
              · refine own_go (fun _ k => XS.icmpYes X0.here hx rfl (pc0 := 56) (pc' := 63) rfl (hb hby d1_56) rfl (feq hc56).2 (by decide) (by decide) k) ?_
                show own_Fin p.tables e below _ (s₁.setTop (mkF m 63 #[.val (.int p1)] []))
                refine own_go (fun _ k => XS.iloadN X0.here hx rfl (hb hby d1_63) rfl k) ?_
                show own_Fin p.tables e below _ (s₁.setTop (mkF m 64 #[.val (.int p1)] [(.int p1)]))
                refine own_go (fun _ k => XS.bipush X0.here hx rfl (hb hby d1_64) k) ?_
                show own_Fin p.tables e below _ (s₁.setTop (mkF m 66 #[.val (.int p1)] [(.int (7 : Int32)), (.int p1)]))
                by_cases hc66 : p1 = (7 : Int32)
                · refine own_go (fun _ k => XS.icmpNo X0.here hx rfl (hb hby d1_66) rfl (teq hc66).2 k) ?_
                  show own_Fin p.tables e below _ (s₁.setTop (mkF m 69 #[.val (.int p1)] []))
                  obtain ⟨T8, X8, e8, st8⟩ := getS2 X0 hx hZ hown (host := "") (Or.inl (hw _ (List.mem_of_getElem? (i := 28) rfl))) Via.refl e0 S7 (g := (mkF m 69 #[.val (.int p1)] [])) rfl (hb hby d1_69)
                  refine own_go st8 ?_
                  show own_Fin p.tables e below _ (T8.setTop (mkF m 72 #[.val (.int p1)] [(.ref v7)]))
                  obtain ⟨fs, hr, hrun, hended, hW, hsame⟩ := X8.leave (v := some (.ref v7)) (fun h => by rw [Bd.returns] at h; cases h)
                  refine ⟨_, _, ?_, hrun, hended, _, _, rfl, ?_, ⟨_, rfl⟩, hW, hsame.mono (by decide) (by decide)⟩
                  · jvm_step X8.here [X8.here.top, hx, (hb hby d1_72), X8.method', Bd.returns, Value.isRef, FieldType.isReference]
                    first | (intro acts; rw [hr _ acts rfl rfl rfl]) | rw [hr _ _ rfl rfl rfl]
                    exact Steps.refl _
                  · show Q_own_pick Z p1 v0 v1 v2 v3 v4 v5 v6 v7 v8 h0 n0 _ T8.heap _
                    rw [e8]
                    exact ⟨(by simp [hc1, hc10, hc19, hc28, hc37, hc46, hc56, hc66]), N0, rfl⟩
                · refine own_go (fun _ k => XS.icmpYes X0.here hx rfl (pc0 := 66) (pc' := 73) rfl (hb hby d1_66) rfl (feq hc66).2 (by decide) (by decide) k) ?_
                  show own_Fin p.tables e below _ (s₁.setTop (mkF m 73 #[.val (.int p1)] []))
                  obtain ⟨T9, X9, e9, st9⟩ := getS2 X0 hx hZ hown (host := "") (Or.inl (hw _ (List.mem_of_getElem? (i := 30) rfl))) Via.refl e0 S8 (g := (mkF m 73 #[.val (.int p1)] [])) rfl (hb hby d1_73)
                  refine own_go st9 ?_
                  show own_Fin p.tables e below _ (T9.setTop (mkF m 76 #[.val (.int p1)] [(.ref v8)]))
                  obtain ⟨fs, hr, hrun, hended, hW, hsame⟩ := X9.leave (v := some (.ref v8)) (fun h => by rw [Bd.returns] at h; cases h)
                  refine ⟨_, _, ?_, hrun, hended, _, _, rfl, ?_, ⟨_, rfl⟩, hW, hsame.mono (by decide) (by decide)⟩
                  · jvm_step X9.here [X9.here.top, hx, (hb hby d1_76), X9.method', Bd.returns, Value.isRef, FieldType.isReference]
                    first | (intro acts; rw [hr _ acts rfl rfl rfl]) | rw [hr _ _ rfl rfl rfl]
                    exact Steps.refl _
                  · show Q_own_pick Z p1 v0 v1 v2 v3 v4 v5 v6 v7 v8 h0 n0 _ T9.heap _
                    rw [e9]
                    exact ⟨(by simp [hc1, hc10, hc19, hc28, hc37, hc46, hc56, hc66]), N0, rfl⟩
def Q_own_dt (Z : State) (a1 : Addr) (v4 : Addr) (v6 : Addr) (v7 : Addr) (v8 : Addr) (v2 : Addr) (h0 : Heap) (n0 : Nat) (v : Option Value) (h : Heap) (L : List Loc) : Prop := v = some (.int (if a1 = v4 then (1 : Int32) else (if a1 = v6 then (1 : Int32) else (if a1 = v7 then (1 : Int32) else (if a1 = v8 then (1 : Int32) else (if a1 = v2 then (1 : Int32) else (0 : Int32))))))) ∧ Fr n0 L ∧ h = h0
theorem ef_own_dt (m : MethodId) (x0 : Addr) : entryFrame m #[(.ref x0)] 1 = mkF m 0 #[.val (.ref x0)] [] := by first | (simp [entryFrame, mkF, argsToLocals, Value.category]; done) | rfl
set_option maxRecDepth 65536 in
set_option maxHeartbeats 40000000 in
theorem own_dt (l : Launch) (Z : State) (a0 : Array Value) (hw : ∀ d ∈ tables_1, d.before a0 Z = true) (ws : List Jvm.Cond) (a1 : Addr) (v4 : Addr) (v6 : Addr) (v7 : Addr) (v8 : Addr) (v2 : Addr) (h0 : Heap) (n0 : Nat) (Z0 : n0 ≤ h0.size) (S4 : Sta Z h0 "com/example/calends/calends/jats/DatePlace" "MIXED_CITATION" "Lcom/example/calends/calends/jats/DatePlace;" (.ref v4)) (S6 : Sta Z h0 "com/example/calends/calends/jats/DatePlace" "PRODUCT" "Lcom/example/calends/calends/jats/DatePlace;" (.ref v6)) (S7 : Sta Z h0 "com/example/calends/calends/jats/DatePlace" "RELATED_ARTICLE" "Lcom/example/calends/calends/jats/DatePlace;" (.ref v7)) (S8 : Sta Z h0 "com/example/calends/calends/jats/DatePlace" "RELATED_OBJECT" "Lcom/example/calends/calends/jats/DatePlace;" (.ref v8)) (S2 : Sta Z h0 "com/example/calends/calends/jats/DatePlace" "DATE_IN_CITATION" "Lcom/example/calends/calends/jats/DatePlace;" (.ref v2)) :
    MetFree l (⟨"com/example/calends/calends/jats/DatePlace", "displaysText", "()Z"⟩ : MethodName) (head1 (Jvm.Cond.code (⟨"com/example/calends/calends/jats/DatePlace", "displaysText", "()Z"⟩ : MethodName) prog_39_method_8_code 1 (some .boolean) :: ws) ({ frames := 0, cells := 0, slots := 0, locals := 0 } : Room)) (fun a U => a = #[(.ref a1)] ∧ Z.Warmed39 U.vm ∧ U.heap = h0) (fun _ _ _ _ _ => True) (fun _ U o U' => ∃ v L, o = .returned v ∧ Q_own_dt Z a1 v4 v6 v7 v8 v2 h0 n0 v U'.heap L ∧ FrameEnd U o U' L ({ frames := 0, cells := 0, slots := 0, locals := 0 } : Room).cells ({ frames := 0, cells := 0, slots := 0, locals := 0 } : Room).slots) := by
  refine MetFree.of_bodySF (plainFor_of_name own_pn1) hisR ?_
  intro p e s m args below meth c s₁ Bd hml0 hP hK
  obtain ⟨rfl, hZ, hh⟩ := hP
  have hx := Bd.exec
  have hby := Bd.bytes
  have hml : c.maxLocals = 1 := hml0
  have hown : s.vm.findClass "com/example/calends/calends/jats/DatePlace" = some m.cls := findClass_of_methodNamed Bd.named
  have hnm := (name_of_methodNamed Bd.named Bd.method).1
  have X0 : Stand p l e ({ frames := 0, cells := 0, slots := 0, locals := 0 } : Room) s m #[(.ref a1)] below meth c s₁ [] 0 0 := Stand.of_body Bd
  have e0 : s₁.heap = h0 := by rw [← hh, Bd.state]; rfl
  have N0 := Fr.nil n0
  show own_Fin p.tables e below _ (s₁.setTop (entryFrame m #[(.ref a1)] 1))
  refine own_go (fun _ k => castTop (ef_own_dt m a1) k) ?_
  show own_Fin p.tables e below _ (s₁.setTop (mkF m 0 #[.val (.ref a1)] []))
  refine own_go (fun _ k => XS.aloadN X0.here hx rfl (hb hby d2_0) rfl rfl k) ?_
  show own_Fin p.tables e below _ (s₁.setTop (mkF m 1 #[.val (.ref a1)] [(.ref a1)]))
  obtain ⟨T1, X1, e1, st1⟩ := getS2 X0 hx hZ hown (host := "") (Or.inl (hw _ (List.mem_of_getElem? (i := 13) rfl))) Via.refl e0 S4 (g := (mkF m 1 #[.val (.ref a1)] [(.ref a1)])) rfl (hb hby d2_1)
  refine own_go st1 ?_
  show own_Fin p.tables e below _ (T1.setTop (mkF m 4 #[.val (.ref a1)] [(.ref v4), (.ref a1)]))
  by_cases ha4 : a1 = v4
  · refine own_go (fun _ k => Jvm.RoadKit.acmp (g := (mkF m 4 #[.val (.ref a1)] [(.ref v4), (.ref a1)])) X1 hx rfl rfl rfl (pc0 := 4) (pc' := 35) (same := true) rfl (hb hby d2_4) rfl (decide_eq_true (congrArg Value.ref ha4)) (by decide) (by decide) k) ?_
    show own_Fin p.tables e below _ (T1.setTop (mkF m 35 #[.val (.ref a1)] []))
    refine own_go (fun _ k => XS.iconst X1.here hx rfl (hb hby d2_35) k) ?_
    show own_Fin p.tables e below _ (T1.setTop (mkF m 36 #[.val (.ref a1)] [(.int (1 : Int32))]))
    refine own_go (fun _ k => XS.goto X1.here hx rfl (pc0 := 36) (pc' := 40) rfl (hb hby d2_36) (by decide) (by decide) k) ?_
    show own_Fin p.tables e below _ (T1.setTop (mkF m 40 #[.val (.ref a1)] [(.int (1 : Int32))]))
    obtain ⟨fs, hr, hrun, hended, hW, hsame⟩ := X1.leave (v := some (.int (1 : Int32))) (fun h => by rw [Bd.returns] at h; cases h)
    refine ⟨_, _, ?_, hrun, hended, _, _, rfl, ?_, ⟨_, rfl⟩, hW, hsame.mono (by decide) (by decide)⟩
    · exact retN X1 hx (t := .boolean) Bd.returns (by simp) (hb hby d2_40) hr
    · show Q_own_dt Z a1 v4 v6 v7 v8 v2 h0 n0 _ T1.heap _
      rw [e1]
      exact ⟨(by simp [ha4]), N0, rfl⟩
  · refine own_go (fun _ k => Jvm.RoadKit.acmp (g := (mkF m 4 #[.val (.ref a1)] [(.ref v4), (.ref a1)])) X1 hx rfl rfl rfl (pc0 := 4) (pc' := 7) (same := false) rfl (hb hby d2_4) rfl (decide_eq_false fun q => ha4 (Value.ref.inj q)) (by decide) (by decide) k) ?_
    show own_Fin p.tables e below _ (T1.setTop (mkF m 7 #[.val (.ref a1)] []))
    refine own_go (fun _ k => XS.aloadN X1.here hx rfl (hb hby d2_7) rfl rfl k) ?_
    show own_Fin p.tables e below _ (T1.setTop (mkF m 8 #[.val (.ref a1)] [(.ref a1)]))
    obtain ⟨T2, X2, e2, st2⟩ := getS2 X1 hx hZ hown (host := "") (Or.inl (hw _ (List.mem_of_getElem? (i := 15) rfl))) Via.refl e1 S6 (g := (mkF m 8 #[.val (.ref a1)] [(.ref a1)])) rfl (hb hby d2_8)
    refine own_go st2 ?_
    show own_Fin p.tables e below _ (T2.setTop (mkF m 11 #[.val (.ref a1)] [(.ref v6), (.ref a1)]))
    by_cases ha11 : a1 = v6
    · refine own_go (fun _ k => Jvm.RoadKit.acmp (g := (mkF m 11 #[.val (.ref a1)] [(.ref v6), (.ref a1)])) X2 hx rfl rfl rfl (pc0 := 11) (pc' := 35) (same := true) rfl (hb hby d2_11) rfl (decide_eq_true (congrArg Value.ref ha11)) (by decide) (by decide) k) ?_
      show own_Fin p.tables e below _ (T2.setTop (mkF m 35 #[.val (.ref a1)] []))
      refine own_go (fun _ k => XS.iconst X2.here hx rfl (hb hby d2_35) k) ?_
      show own_Fin p.tables e below _ (T2.setTop (mkF m 36 #[.val (.ref a1)] [(.int (1 : Int32))]))
      refine own_go (fun _ k => XS.goto X2.here hx rfl (pc0 := 36) (pc' := 40) rfl (hb hby d2_36) (by decide) (by decide) k) ?_
      show own_Fin p.tables e below _ (T2.setTop (mkF m 40 #[.val (.ref a1)] [(.int (1 : Int32))]))
      obtain ⟨fs, hr, hrun, hended, hW, hsame⟩ := X2.leave (v := some (.int (1 : Int32))) (fun h => by rw [Bd.returns] at h; cases h)
      refine ⟨_, _, ?_, hrun, hended, _, _, rfl, ?_, ⟨_, rfl⟩, hW, hsame.mono (by decide) (by decide)⟩
      · exact retN X2 hx (t := .boolean) Bd.returns (by simp) (hb hby d2_40) hr
      · show Q_own_dt Z a1 v4 v6 v7 v8 v2 h0 n0 _ T2.heap _
        rw [e2]
        exact ⟨(by simp [ha4, ha11]), N0, rfl⟩
    · refine own_go (fun _ k => Jvm.RoadKit.acmp (g := (mkF m 11 #[.val (.ref a1)] [(.ref v6), (.ref a1)])) X2 hx rfl rfl rfl (pc0 := 11) (pc' := 14) (same := false) rfl (hb hby d2_11) rfl (decide_eq_false fun q => ha11 (Value.ref.inj q)) (by decide) (by decide) k) ?_
      show own_Fin p.tables e below _ (T2.setTop (mkF m 14 #[.val (.ref a1)] []))
      refine own_go (fun _ k => XS.aloadN X2.here hx rfl (hb hby d2_14) rfl rfl k) ?_
      show own_Fin p.tables e below _ (T2.setTop (mkF m 15 #[.val (.ref a1)] [(.ref a1)]))
      obtain ⟨T3, X3, e3, st3⟩ := getS2 X2 hx hZ hown (host := "") (Or.inl (hw _ (List.mem_of_getElem? (i := 17) rfl))) Via.refl e2 S7 (g := (mkF m 15 #[.val (.ref a1)] [(.ref a1)])) rfl (hb hby d2_15)
      refine own_go st3 ?_
      show own_Fin p.tables e below _ (T3.setTop (mkF m 18 #[.val (.ref a1)] [(.ref v7), (.ref a1)]))
      by_cases ha18 : a1 = v7
      · refine own_go (fun _ k => Jvm.RoadKit.acmp (g := (mkF m 18 #[.val (.ref a1)] [(.ref v7), (.ref a1)])) X3 hx rfl rfl rfl (pc0 := 18) (pc' := 35) (same := true) rfl (hb hby d2_18) rfl (decide_eq_true (congrArg Value.ref ha18)) (by decide) (by decide) k) ?_
        show own_Fin p.tables e below _ (T3.setTop (mkF m 35 #[.val (.ref a1)] []))
        refine own_go (fun _ k => XS.iconst X3.here hx rfl (hb hby d2_35) k) ?_
        show own_Fin p.tables e below _ (T3.setTop (mkF m 36 #[.val (.ref a1)] [(.int (1 : Int32))]))
        refine own_go (fun _ k => XS.goto X3.here hx rfl (pc0 := 36) (pc' := 40) rfl (hb hby d2_36) (by decide) (by decide) k) ?_
        show own_Fin p.tables e below _ (T3.setTop (mkF m 40 #[.val (.ref a1)] [(.int (1 : Int32))]))
        obtain ⟨fs, hr, hrun, hended, hW, hsame⟩ := X3.leave (v := some (.int (1 : Int32))) (fun h => by rw [Bd.returns] at h; cases h)
        refine ⟨_, _, ?_, hrun, hended, _, _, rfl, ?_, ⟨_, rfl⟩, hW, hsame.mono (by decide) (by decide)⟩
        · exact retN X3 hx (t := .boolean) Bd.returns (by simp) (hb hby d2_40) hr
        · show Q_own_dt Z a1 v4 v6 v7 v8 v2 h0 n0 _ T3.heap _
          rw [e3]
          exact ⟨(by simp [ha4, ha11, ha18]), N0, rfl⟩
      · refine own_go (fun _ k => Jvm.RoadKit.acmp (g := (mkF m 18 #[.val (.ref a1)] [(.ref v7), (.ref a1)])) X3 hx rfl rfl rfl (pc0 := 18) (pc' := 21) (same := false) rfl (hb hby d2_18) rfl (decide_eq_false fun q => ha18 (Value.ref.inj q)) (by decide) (by decide) k) ?_
        show own_Fin p.tables e below _ (T3.setTop (mkF m 21 #[.val (.ref a1)] []))
        refine own_go (fun _ k => XS.aloadN X3.here hx rfl (hb hby d2_21) rfl rfl k) ?_
        show own_Fin p.tables e below _ (T3.setTop (mkF m 22 #[.val (.ref a1)] [(.ref a1)]))
        obtain ⟨T4, X4, e4, st4⟩ := getS2 X3 hx hZ hown (host := "") (Or.inl (hw _ (List.mem_of_getElem? (i := 19) rfl))) Via.refl e3 S8 (g := (mkF m 22 #[.val (.ref a1)] [(.ref a1)])) rfl (hb hby d2_22)
        refine own_go st4 ?_
        show own_Fin p.tables e below _ (T4.setTop (mkF m 25 #[.val (.ref a1)] [(.ref v8), (.ref a1)]))
        by_cases ha25 : a1 = v8
        · refine own_go (fun _ k => Jvm.RoadKit.acmp (g := (mkF m 25 #[.val (.ref a1)] [(.ref v8), (.ref a1)])) X4 hx rfl rfl rfl (pc0 := 25) (pc' := 35) (same := true) rfl (hb hby d2_25) rfl (decide_eq_true (congrArg Value.ref ha25)) (by decide) (by decide) k) ?_
          show own_Fin p.tables e below _ (T4.setTop (mkF m 35 #[.val (.ref a1)] []))
          refine own_go (fun _ k => XS.iconst X4.here hx rfl (hb hby d2_35) k) ?_
          show own_Fin p.tables e below _ (T4.setTop (mkF m 36 #[.val (.ref a1)] [(.int (1 : Int32))]))
          refine own_go (fun _ k => XS.goto X4.here hx rfl (pc0 := 36) (pc' := 40) rfl (hb hby d2_36) (by decide) (by decide) k) ?_
          show own_Fin p.tables e below _ (T4.setTop (mkF m 40 #[.val (.ref a1)] [(.int (1 : Int32))]))
          obtain ⟨fs, hr, hrun, hended, hW, hsame⟩ := X4.leave (v := some (.int (1 : Int32))) (fun h => by rw [Bd.returns] at h; cases h)
          refine ⟨_, _, ?_, hrun, hended, _, _, rfl, ?_, ⟨_, rfl⟩, hW, hsame.mono (by decide) (by decide)⟩
          · exact retN X4 hx (t := .boolean) Bd.returns (by simp) (hb hby d2_40) hr
          · show Q_own_dt Z a1 v4 v6 v7 v8 v2 h0 n0 _ T4.heap _
            rw [e4]
            exact ⟨(by simp [ha4, ha11, ha18, ha25]), N0, rfl⟩
        · refine own_go (fun _ k => Jvm.RoadKit.acmp (g := (mkF m 25 #[.val (.ref a1)] [(.ref v8), (.ref a1)])) X4 hx rfl rfl rfl (pc0 := 25) (pc' := 28) (same := false) rfl (hb hby d2_25) rfl (decide_eq_false fun q => ha25 (Value.ref.inj q)) (by decide) (by decide) k) ?_
          show own_Fin p.tables e below _ (T4.setTop (mkF m 28 #[.val (.ref a1)] []))
          refine own_go (fun _ k => XS.aloadN X4.here hx rfl (hb hby d2_28) rfl rfl k) ?_
          show own_Fin p.tables e below _ (T4.setTop (mkF m 29 #[.val (.ref a1)] [(.ref a1)]))
          obtain ⟨T5, X5, e5, st5⟩ := getS2 X4 hx hZ hown (host := "") (Or.inl (hw _ (List.mem_of_getElem? (i := 21) rfl))) Via.refl e4 S2 (g := (mkF m 29 #[.val (.ref a1)] [(.ref a1)])) rfl (hb hby d2_29)
          refine own_go st5 ?_
          show own_Fin p.tables e below _ (T5.setTop (mkF m 32 #[.val (.ref a1)] [(.ref v2), (.ref a1)]))
          by_cases ha32 : a1 = v2
          · refine own_go (fun _ k => Jvm.RoadKit.acmp (g := (mkF m 32 #[.val (.ref a1)] [(.ref v2), (.ref a1)])) X5 hx rfl rfl rfl (pc0 := 32) (pc' := 35) (same := true) rfl (hb hby d2_32) rfl (decide_eq_true (congrArg Value.ref ha32)) (by decide) (by decide) k) ?_
            show own_Fin p.tables e below _ (T5.setTop (mkF m 35 #[.val (.ref a1)] []))
            refine own_go (fun _ k => XS.iconst X5.here hx rfl (hb hby d2_35) k) ?_
            show own_Fin p.tables e below _ (T5.setTop (mkF m 36 #[.val (.ref a1)] [(.int (1 : Int32))]))
            refine own_go (fun _ k => XS.goto X5.here hx rfl (pc0 := 36) (pc' := 40) rfl (hb hby d2_36) (by decide) (by decide) k) ?_
            show own_Fin p.tables e below _ (T5.setTop (mkF m 40 #[.val (.ref a1)] [(.int (1 : Int32))]))
            obtain ⟨fs, hr, hrun, hended, hW, hsame⟩ := X5.leave (v := some (.int (1 : Int32))) (fun h => by rw [Bd.returns] at h; cases h)
            refine ⟨_, _, ?_, hrun, hended, _, _, rfl, ?_, ⟨_, rfl⟩, hW, hsame.mono (by decide) (by decide)⟩
            · exact retN X5 hx (t := .boolean) Bd.returns (by simp) (hb hby d2_40) hr
            · show Q_own_dt Z a1 v4 v6 v7 v8 v2 h0 n0 _ T5.heap _
              rw [e5]
              exact ⟨(by simp [ha4, ha11, ha18, ha25, ha32]), N0, rfl⟩
          · refine own_go (fun _ k => Jvm.RoadKit.acmp (g := (mkF m 32 #[.val (.ref a1)] [(.ref v2), (.ref a1)])) X5 hx rfl rfl rfl (pc0 := 32) (pc' := 39) (same := false) rfl (hb hby d2_32) rfl (decide_eq_false fun q => ha32 (Value.ref.inj q)) (by decide) (by decide) k) ?_
            show own_Fin p.tables e below _ (T5.setTop (mkF m 39 #[.val (.ref a1)] []))
            refine own_go (fun _ k => XS.iconst X5.here hx rfl (hb hby d2_39) k) ?_
            show own_Fin p.tables e below _ (T5.setTop (mkF m 40 #[.val (.ref a1)] [(.int (0 : Int32))]))
            obtain ⟨fs, hr, hrun, hended, hW, hsame⟩ := X5.leave (v := some (.int (0 : Int32))) (fun h => by rw [Bd.returns] at h; cases h)
            refine ⟨_, _, ?_, hrun, hended, _, _, rfl, ?_, ⟨_, rfl⟩, hW, hsame.mono (by decide) (by decide)⟩
            · exact retN X5 hx (t := .boolean) Bd.returns (by simp) (hb hby d2_40) hr
            · show Q_own_dt Z a1 v4 v6 v7 v8 v2 h0 n0 _ T5.heap _
              rw [e5]
              exact ⟨(by simp [ha4, ha11, ha18, ha25, ha32]), N0, rfl⟩
theorem own_k9 (p1 : Int32) : ((p1 &&& (2147483647 : Int32)) % (9 : Int32)) = (0 : Int32) ∨ ((p1 &&& (2147483647 : Int32)) % (9 : Int32)) = (1 : Int32) ∨ ((p1 &&& (2147483647 : Int32)) % (9 : Int32)) = (2 : Int32) ∨ ((p1 &&& (2147483647 : Int32)) % (9 : Int32)) = (3 : Int32) ∨ ((p1 &&& (2147483647 : Int32)) % (9 : Int32)) = (4 : Int32) ∨ ((p1 &&& (2147483647 : Int32)) % (9 : Int32)) = (5 : Int32) ∨ ((p1 &&& (2147483647 : Int32)) % (9 : Int32)) = (6 : Int32) ∨ ((p1 &&& (2147483647 : Int32)) % (9 : Int32)) = (7 : Int32) ∨ ((p1 &&& (2147483647 : Int32)) % (9 : Int32)) = (8 : Int32) := by
  have h1 := c_and p1 (2147483647 : Int32) (by decide)
  have h2 := (c_irem (p1 &&& (2147483647 : Int32)) (9 : Int32) 9 rfl).1 h1.1
  have h3 : 0 ≤ (p1 &&& (2147483647 : Int32)).toInt % 9 ∧ (p1 &&& (2147483647 : Int32)).toInt % 9 < 9 := by omega
  rw [← h2] at h3
  generalize ((p1 &&& (2147483647 : Int32)) % (9 : Int32)) = y at h3
  simp only [← Int32.toInt_inj]
  have e0 : (0 : Int32).toInt = 0 := rfl
  have e1 : (1 : Int32).toInt = 1 := rfl
  have e2 : (2 : Int32).toInt = 2 := rfl
  have e3 : (3 : Int32).toInt = 3 := rfl
  have e4 : (4 : Int32).toInt = 4 := rfl
  have e5 : (5 : Int32).toInt = 5 := rfl
  have e6 : (6 : Int32).toInt = 6 := rfl
  have e7 : (7 : Int32).toInt = 7 := rfl
  have e8 : (8 : Int32).toInt = 8 := rfl
  omega
def Q_own_law (Z : State) (p1 : Int32) (v0 : Addr) (v1 : Addr) (v2 : Addr) (v3 : Addr) (v4 : Addr) (v5 : Addr) (v6 : Addr) (v7 : Addr) (v8 : Addr) (h0 : Heap) (n0 : Nat) (v : Option Value) (h : Heap) (L : List Loc) : Prop := v = some (.int (1 : Int32)) ∧ Fr n0 L
theorem ef_own_law (m : MethodId) (x0 : Int32) : entryFrame m #[(.int x0)] maxLocals = mkF m 0 #[.val (.int x0), .unset, .unset, .unset] [] := by first | (simp [entryFrame, mkF, argsToLocals, Value.category, maxLocals]; done) | rfl
set_option maxRecDepth 65536 in
set_option maxHeartbeats 40000000 in
theorem own_law (l : Launch) (Z : State) (a0 : Array Value) (hw : ∀ d ∈ tables_1, d.before a0 Z = true) (ws : List Jvm.Cond) (p1 : Int32) (v0 : Addr) (v1 : Addr) (v2 : Addr) (v3 : Addr) (v4 : Addr) (v5 : Addr) (v6 : Addr) (v7 : Addr) (v8 : Addr) (h0 : Heap) (n0 : Nat) (Z0 : n0 ≤ h0.size) (S0 : Sta Z h0 "com/example/calends/calends/jats/DatePlace" "PUB_DATE" "Lcom/example/calends/calends/jats/DatePlace;" (.ref v0)) (S1 : Sta Z h0 "com/example/calends/calends/jats/DatePlace" "DATE" "Lcom/example/calends/calends/jats/DatePlace;" (.ref v1)) (S2 : Sta Z h0 "com/example/calends/calends/jats/DatePlace" "DATE_IN_CITATION" "Lcom/example/calends/calends/jats/DatePlace;" (.ref v2)) (S3 : Sta Z h0 "com/example/calends/calends/jats/DatePlace" "ELEMENT_CITATION" "Lcom/example/calends/calends/jats/DatePlace;" (.ref v3)) (S4 : Sta Z h0 "com/example/calends/calends/jats/DatePlace" "MIXED_CITATION" "Lcom/example/calends/calends/jats/DatePlace;" (.ref v4)) (S5 : Sta Z h0 "com/example/calends/calends/jats/DatePlace" "NLM_CITATION" "Lcom/example/calends/calends/jats/DatePlace;" (.ref v5)) (S6 : Sta Z h0 "com/example/calends/calends/jats/DatePlace" "PRODUCT" "Lcom/example/calends/calends/jats/DatePlace;" (.ref v6)) (S7 : Sta Z h0 "com/example/calends/calends/jats/DatePlace" "RELATED_ARTICLE" "Lcom/example/calends/calends/jats/DatePlace;" (.ref v7)) (S8 : Sta Z h0 "com/example/calends/calends/jats/DatePlace" "RELATED_OBJECT" "Lcom/example/calends/calends/jats/DatePlace;" (.ref v8)) (E0 : Exa Z h0 v0 "com/example/calends/calends/jats/DatePlace") (E1 : Exa Z h0 v1 "com/example/calends/calends/jats/DatePlace") (E2 : Exa Z h0 v2 "com/example/calends/calends/jats/DatePlace") (E3 : Exa Z h0 v3 "com/example/calends/calends/jats/DatePlace") (E4 : Exa Z h0 v4 "com/example/calends/calends/jats/DatePlace") (E5 : Exa Z h0 v5 "com/example/calends/calends/jats/DatePlace") (E6 : Exa Z h0 v6 "com/example/calends/calends/jats/DatePlace") (E7 : Exa Z h0 v7 "com/example/calends/calends/jats/DatePlace") (E8 : Exa Z h0 v8 "com/example/calends/calends/jats/DatePlace") (ne10 : v1 ≠ v0) (ne20 : v2 ≠ v0) (ne21 : v2 ≠ v1) (ne30 : v3 ≠ v0) (ne31 : v3 ≠ v1) (ne32 : v3 ≠ v2) (ne40 : v4 ≠ v0) (ne41 : v4 ≠ v1) (ne42 : v4 ≠ v2) (ne43 : v4 ≠ v3) (ne50 : v5 ≠ v0) (ne51 : v5 ≠ v1) (ne52 : v5 ≠ v2) (ne53 : v5 ≠ v3) (ne54 : v5 ≠ v4) (ne60 : v6 ≠ v0) (ne61 : v6 ≠ v1) (ne62 : v6 ≠ v2) (ne63 : v6 ≠ v3) (ne64 : v6 ≠ v4) (ne65 : v6 ≠ v5) (ne70 : v7 ≠ v0) (ne71 : v7 ≠ v1) (ne72 : v7 ≠ v2) (ne73 : v7 ≠ v3) (ne74 : v7 ≠ v4) (ne75 : v7 ≠ v5) (ne76 : v7 ≠ v6) (ne80 : v8 ≠ v0) (ne81 : v8 ≠ v1) (ne82 : v8 ≠ v2) (ne83 : v8 ≠ v3) (ne84 : v8 ≠ v4) (ne85 : v8 ≠ v5) (ne86 : v8 ≠ v6) (ne87 : v8 ≠ v7) :
    MetFree l x (head1 (Jvm.Cond.code x code maxLocals ret :: ws) room_1) (fun a U => a = #[(.int p1)] ∧ Z.Warmed39 U.vm ∧ U.heap = h0) (fun _ _ _ _ _ => True) (fun _ U o U' => ∃ v L, o = .returned v ∧ Q_own_law Z p1 v0 v1 v2 v3 v4 v5 v6 v7 v8 h0 n0 v U'.heap L ∧ FrameEnd U o U' L room_1.cells room_1.slots) := by
  refine MetFree.of_bodySF (plainFor_of_name own_pn0) hisR ?_
  intro p e s m args below meth c s₁ Bd hml0 hP hK
  obtain ⟨rfl, hZ, hh⟩ := hP
  have hx := Bd.exec
  have hby := Bd.bytes
  have hml : c.maxLocals = 4 := hml0
  have hown : s.vm.findClass "com/example/calends/calends/jats/DatePlaceDisplaysTextPinLaw" = some m.cls := findClass_of_methodNamed Bd.named
  have hnm := (name_of_methodNamed Bd.named Bd.method).1
  have X0 : Stand p l e room_1 s m #[(.int p1)] below meth c s₁ [] 0 0 := Stand.of_body Bd
  have e0 : s₁.heap = h0 := by rw [← hh, Bd.state]; rfl
  have N0 := Fr.nil n0
  show own_Fin p.tables e below _ (s₁.setTop (entryFrame m #[(.int p1)] maxLocals))
  refine own_go (fun _ k => castTop (ef_own_law m p1) k) ?_
  show own_Fin p.tables e below _ (s₁.setTop (mkF m 0 #[.val (.int p1), .unset, .unset, .unset] []))
  refine own_go (fun _ k => XS.iloadN X0.here hx rfl (hb hby at_0) rfl k) ?_
  show own_Fin p.tables e below _ (s₁.setTop (mkF m 1 #[.val (.int p1), .unset, .unset, .unset] [(.int p1)]))
  refine own_go (X0.ldcInt hx hown (mvT hZ (hw _ (List.mem_of_getElem? (i := 0) rfl))) (g := (mkF m 1 #[.val (.int p1), .unset, .unset, .unset] [(.int p1)])) rfl (hb hby at_1)) ?_
  show own_Fin p.tables e below _ (s₁.setTop (mkF m 3 #[.val (.int p1), .unset, .unset, .unset] [(.int (2147483647 : Int32)), (.int p1)]))
  refine own_go (fun _ k => XS.iand X0.here hx rfl (hb hby at_3) rfl k) ?_
  show own_Fin p.tables e below _ (s₁.setTop (mkF m 4 #[.val (.int p1), .unset, .unset, .unset] [(.int (p1 &&& (2147483647 : Int32)))]))
  refine own_go (fun _ k => XS.bipush X0.here hx rfl (hb hby at_4) k) ?_
  show own_Fin p.tables e below _ (s₁.setTop (mkF m 6 #[.val (.int p1), .unset, .unset, .unset] [(.int (9 : Int32)), (.int (p1 &&& (2147483647 : Int32)))]))
  refine own_go (fun _ k => iremM X0 hx rfl (hb hby at_6) rfl (by decide) k) ?_
  show own_Fin p.tables e below _ (s₁.setTop (mkF m 7 #[.val (.int p1), .unset, .unset, .unset] [(.int ((p1 &&& (2147483647 : Int32)) % (9 : Int32)))]))
  refine own_go (fun _ k => XS.istoreN X0.here hx rfl (hb hby at_7) rfl (l' := #[.val (.int p1), .val (.int ((p1 &&& (2147483647 : Int32)) % (9 : Int32))), .unset, .unset]) rfl k) ?_
  show own_Fin p.tables e below _ (s₁.setTop (mkF m 8 #[.val (.int p1), .val (.int ((p1 &&& (2147483647 : Int32)) % (9 : Int32))), .unset, .unset] []))
  rcases (own_k9 p1 : ((p1 &&& (2147483647 : Int32)) % (9 : Int32)) = (0 : Int32) ∨ ((p1 &&& (2147483647 : Int32)) % (9 : Int32)) = (1 : Int32) ∨ ((p1 &&& (2147483647 : Int32)) % (9 : Int32)) = (2 : Int32) ∨ ((p1 &&& (2147483647 : Int32)) % (9 : Int32)) = (3 : Int32) ∨ ((p1 &&& (2147483647 : Int32)) % (9 : Int32)) = (4 : Int32) ∨ ((p1 &&& (2147483647 : Int32)) % (9 : Int32)) = (5 : Int32) ∨ ((p1 &&& (2147483647 : Int32)) % (9 : Int32)) = (6 : Int32) ∨ ((p1 &&& (2147483647 : Int32)) % (9 : Int32)) = (7 : Int32) ∨ ((p1 &&& (2147483647 : Int32)) % (9 : Int32)) = (8 : Int32)) with hk | hk | hk | hk | hk | hk | hk | hk | hk
  · rw [hk]
    show own_Fin p.tables e below _ (s₁.setTop (mkF m 8 #[.val (.int p1), .val (.int (0 : Int32)), .unset, .unset] []))
    refine own_go (fun _ k => XS.iloadN X0.here hx rfl (hb hby at_8) rfl k) ?_
    show own_Fin p.tables e below _ (s₁.setTop (mkF m 9 #[.val (.int p1), .val (.int (0 : Int32)), .unset, .unset] [(.int (0 : Int32))]))
    obtain ⟨_, _, ⟨T1, L1, k1, n1⟩, -, X1, ⟨Lc1, hQ1, l1, y1, z1⟩, st1⟩ := Jvm.LawKit.callS X0 hx (y := (⟨"com/example/calends/calends/jats/DatePlaceDisplaysTextPinLaw", "pick", "(I)Lcom/example/calends/calends/jats/DatePlace;"⟩ : MethodName)) hown (mvT hZ (hw _ (List.mem_of_getElem? (i := 1) rfl))) (mvT hZ (hw _ (List.mem_of_getElem? (i := 2) rfl))) (mvT hZ (hw _ (List.mem_of_getElem? (i := 3) rfl))) (mvT hZ (hw _ (List.mem_of_getElem? (i := 4) rfl))) (by decide) (backOf (W := 0) (own_pick l Z a0 hw [] (0 : Int32) v0 v1 v2 v3 v4 v5 v6 v7 v8 h0 n0 Z0 S0 S1 S2 S3 S4 S5 S6 S7 S8) hZ (hw _ (List.mem_of_getElem? (i := 4) rfl)) (hw _ (List.mem_of_getElem? (i := 3) rfl)) (by decide) (by decide)) (g := (mkF m 9 #[.val (.int p1), .val (.int (0 : Int32)), .unset, .unset] [(.int (0 : Int32))])) rfl (by rw [hml]; rfl) (argsL := [(.int (0 : Int32))]) (rest := []) (lenOf own_pd0 rfl) rfl (by show 2 * 0 + _ ≤ _; exact Nat.le_of_eq rfl) (hb hby at_9) (fun _ _ => ⟨rfl, e0, (by decide : 0 + 0 ≤ _), (by decide : 0 + 0 ≤ _)⟩)
    dsimp only [Pt.U, Pt.locs, Pt.cells, Pt.slots] at X1 l1 y1 z1 st1 hQ1
    subst l1 y1 z1
    obtain ⟨hv1, N1q, eh1⟩ := hQ1
    obtain rfl := hv1.trans (by simp : (some (.ref (if (0 : Int32) = (0 : Int32) then v0 else (if (0 : Int32) = (1 : Int32) then v1 else (if (0 : Int32) = (2 : Int32) then v2 else (if (0 : Int32) = (3 : Int32) then v3 else (if (0 : Int32) = (4 : Int32) then v4 else (if (0 : Int32) = (5 : Int32) then v5 else (if (0 : Int32) = (6 : Int32) then v6 else (if (0 : Int32) = (7 : Int32) then v7 else v8))))))))) : Option Value) = some (.ref v0))
    have N1 := Fr.app N0 N1q
    refine own_go st1 ?_
    show own_Fin p.tables e below _ (T1.setTop (mkF m 12 #[.val (.int p1), .val (.int (0 : Int32)), .unset, .unset] [(.ref v0)]))
    refine own_go (fun _ k => XS.astoreN X1.here hx rfl (hb hby at_12) rfl rfl (l' := #[.val (.int p1), .val (.int (0 : Int32)), .val (.ref v0), .unset]) rfl k) ?_
    show own_Fin p.tables e below _ (T1.setTop (mkF m 13 #[.val (.int p1), .val (.int (0 : Int32)), .val (.ref v0), .unset] []))
    refine own_go (fun _ k => XS.iloadN X1.here hx rfl (hb hby at_13) rfl k) ?_
    show own_Fin p.tables e below _ (T1.setTop (mkF m 14 #[.val (.int p1), .val (.int (0 : Int32)), .val (.ref v0), .unset] [(.int (0 : Int32))]))
    refine own_go (fun _ k => XS.iconst X1.here hx rfl (hb hby at_14) k) ?_
    show own_Fin p.tables e below _ (T1.setTop (mkF m 15 #[.val (.int p1), .val (.int (0 : Int32)), .val (.ref v0), .unset] [(.int (2 : Int32)), (.int (0 : Int32))]))
    refine own_go (fun _ k => XS.icmpNo X1.here hx rfl (hb hby at_15) rfl (feq (by decide : ¬ ((0 : Int32) = (2 : Int32)))).1 k) ?_
    show own_Fin p.tables e below _ (T1.setTop (mkF m 18 #[.val (.int p1), .val (.int (0 : Int32)), .val (.ref v0), .unset] []))
    refine own_go (fun _ k => XS.iloadN X1.here hx rfl (hb hby at_18) rfl k) ?_
    show own_Fin p.tables e below _ (T1.setTop (mkF m 19 #[.val (.int p1), .val (.int (0 : Int32)), .val (.ref v0), .unset] [(.int (0 : Int32))]))
    refine own_go (fun _ k => XS.iconst X1.here hx rfl (hb hby at_19) k) ?_
    show own_Fin p.tables e below _ (T1.setTop (mkF m 20 #[.val (.int p1), .val (.int (0 : Int32)), .val (.ref v0), .unset] [(.int (4 : Int32)), (.int (0 : Int32))]))
    refine own_go (fun _ k => XS.icmpNo X1.here hx rfl (hb hby at_20) rfl (feq (by decide : ¬ ((0 : Int32) = (4 : Int32)))).1 k) ?_
    show own_Fin p.tables e below _ (T1.setTop (mkF m 23 #[.val (.int p1), .val (.int (0 : Int32)), .val (.ref v0), .unset] []))
    refine own_go (fun _ k => XS.iloadN X1.here hx rfl (hb hby at_23) rfl k) ?_
    show own_Fin p.tables e below _ (T1.setTop (mkF m 24 #[.val (.int p1), .val (.int (0 : Int32)), .val (.ref v0), .unset] [(.int (0 : Int32))]))
    refine own_go (fun _ k => XS.bipush X1.here hx rfl (hb hby at_24) k) ?_
    show own_Fin p.tables e below _ (T1.setTop (mkF m 26 #[.val (.int p1), .val (.int (0 : Int32)), .val (.ref v0), .unset] [(.int (6 : Int32)), (.int (0 : Int32))]))
    refine own_go (fun _ k => XS.icmpYes X1.here hx rfl (pc0 := 26) (pc' := 33) rfl (hb hby at_26) rfl (tlt (by decide : ((0 : Int32) < (6 : Int32)))).1 (by decide) (by decide) k) ?_
    show own_Fin p.tables e below _ (T1.setTop (mkF m 33 #[.val (.int p1), .val (.int (0 : Int32)), .val (.ref v0), .unset] []))
    refine own_go (fun _ k => XS.iconst X1.here hx rfl (hb hby at_33) k) ?_
    show own_Fin p.tables e below _ (T1.setTop (mkF m 34 #[.val (.int p1), .val (.int (0 : Int32)), .val (.ref v0), .unset] [(.int (0 : Int32))]))
    refine own_go (fun _ k => XS.istoreN X1.here hx rfl (hb hby at_34) rfl (l' := #[.val (.int p1), .val (.int (0 : Int32)), .val (.ref v0), .val (.int (0 : Int32))]) rfl k) ?_
    show own_Fin p.tables e below _ (T1.setTop (mkF m 35 #[.val (.int p1), .val (.int (0 : Int32)), .val (.ref v0), .val (.int (0 : Int32))] []))
    refine own_go (fun _ k => XS.aloadN X1.here hx rfl (hb hby at_35) rfl rfl k) ?_
    show own_Fin p.tables e below _ (T1.setTop (mkF m 36 #[.val (.int p1), .val (.int (0 : Int32)), .val (.ref v0), .val (.int (0 : Int32))] [(.ref v0)]))
    obtain ⟨cq2, kq2, q2a, q2b, q2c⟩ := isOf hZ eh1 E0
    obtain ⟨_, _, ⟨T2, L2, k2, n2⟩, -, X2, ⟨Lc2, hQ2, l2, y2, z2⟩, st2⟩ := X1.virtualBack hx (y := (⟨"com/example/calends/calends/jats/DatePlace", "displaysText", "()Z"⟩ : MethodName)) (z := (⟨"com/example/calends/calends/jats/DatePlace", "displaysText", "()Z"⟩ : MethodName)) hown (mvT hZ (hw _ (List.mem_of_getElem? (i := 8) rfl))) (mvT hZ (hw _ (List.mem_of_getElem? (i := 9) rfl))) (notFace_of_selects (args := #[]) (mvT hZ (hw _ (List.mem_of_getElem? (i := 11) rfl)))) (mvT hZ (hw _ (List.mem_of_getElem? (i := 11) rfl))) (mvT hZ (hw _ (List.mem_of_getElem? (i := 10) rfl))) (by decide) (backOf (W := 0) (own_dt l Z a0 hw [] v0 v4 v6 v7 v8 v2 h0 n0 Z0 S4 S6 S7 S8 S2) hZ (hw _ (List.mem_of_getElem? (i := 12) rfl)) (hw _ (List.mem_of_getElem? (i := 6) rfl)) (by decide) (by decide)) q2a q2c (g := (mkF m 36 #[.val (.int p1), .val (.int (0 : Int32)), .val (.ref v0), .val (.int (0 : Int32))] [(.ref v0)])) rfl (by rw [hml]; rfl) (Steps.refl _) (argsL := []) (rest := []) (lenOf own_pd1 rfl) rfl (by show 2 * 0 + _ ≤ _; exact Nat.le_of_eq rfl) (hb hby at_36) (fun _ _ => ⟨rfl, eh1, (by decide : 0 + 0 ≤ _), (by decide : 0 + 0 ≤ _)⟩)
    dsimp only [Pt.U, Pt.locs, Pt.cells, Pt.slots] at X2 l2 y2 z2 st2 hQ2
    subst l2 y2 z2
    obtain ⟨hv2, N2q, eh2⟩ := hQ2
    obtain rfl := hv2.trans (by simp [ne10, ne20, ne30, ne40, ne50, ne60, ne70, ne80, Ne.symm ne10, Ne.symm ne20, Ne.symm ne30, Ne.symm ne40, Ne.symm ne50, Ne.symm ne60, Ne.symm ne70, Ne.symm ne80] : (some (.int (if v0 = v4 then (1 : Int32) else (if v0 = v6 then (1 : Int32) else (if v0 = v7 then (1 : Int32) else (if v0 = v8 then (1 : Int32) else (if v0 = v2 then (1 : Int32) else (0 : Int32))))))) : Option Value) = some (.int (0 : Int32)))
    have N2 := Fr.app N1 N2q
    refine own_go (fun _ k => st2.trans k) ?_
    show own_Fin p.tables e below _ (T2.setTop (mkF m 39 #[.val (.int p1), .val (.int (0 : Int32)), .val (.ref v0), .val (.int (0 : Int32))] [(.int (0 : Int32))]))
    refine own_go (fun _ k => XS.iloadN X2.here hx rfl (hb hby at_39) rfl k) ?_
    show own_Fin p.tables e below _ (T2.setTop (mkF m 40 #[.val (.int p1), .val (.int (0 : Int32)), .val (.ref v0), .val (.int (0 : Int32))] [(.int (0 : Int32)), (.int (0 : Int32))]))
    refine own_go (fun _ k => XS.icmpNo X2.here hx rfl (hb hby at_40) rfl (teq (by decide : ((0 : Int32) = (0 : Int32)))).2 k) ?_
    show own_Fin p.tables e below _ (T2.setTop (mkF m 43 #[.val (.int p1), .val (.int (0 : Int32)), .val (.ref v0), .val (.int (0 : Int32))] []))
    refine own_go (fun _ k => XS.iconst X2.here hx rfl (hb hby at_43) k) ?_
    show own_Fin p.tables e below _ (T2.setTop (mkF m 44 #[.val (.int p1), .val (.int (0 : Int32)), .val (.ref v0), .val (.int (0 : Int32))] [(.int (1 : Int32))]))
    refine own_go (fun _ k => XS.goto X2.here hx rfl (pc0 := 44) (pc' := 48) rfl (hb hby at_44) (by decide) (by decide) k) ?_
    show own_Fin p.tables e below _ (T2.setTop (mkF m 48 #[.val (.int p1), .val (.int (0 : Int32)), .val (.ref v0), .val (.int (0 : Int32))] [(.int (1 : Int32))]))
    obtain ⟨fs, hr, hrun, hended, hW, hsame⟩ := X2.leave (v := some (.int (1 : Int32))) (fun h => by rw [Bd.returns] at h; cases h)
    refine ⟨_, _, ?_, hrun, hended, _, _, rfl, ?_, ⟨_, rfl⟩, hW, hsame.mono (by decide) (by decide)⟩
    · exact retN X2 hx (t := .boolean) Bd.returns (by simp) (hb hby at_48) hr
    · show Q_own_law Z p1 v0 v1 v2 v3 v4 v5 v6 v7 v8 h0 n0 _ T2.heap _
      rw [eh2]
      exact ⟨rfl, N2⟩
  · rw [hk]
    show own_Fin p.tables e below _ (s₁.setTop (mkF m 8 #[.val (.int p1), .val (.int (1 : Int32)), .unset, .unset] []))
    refine own_go (fun _ k => XS.iloadN X0.here hx rfl (hb hby at_8) rfl k) ?_
    show own_Fin p.tables e below _ (s₁.setTop (mkF m 9 #[.val (.int p1), .val (.int (1 : Int32)), .unset, .unset] [(.int (1 : Int32))]))
    obtain ⟨_, _, ⟨T3, L3, k3, n3⟩, -, X3, ⟨Lc3, hQ3, l3, y3, z3⟩, st3⟩ := Jvm.LawKit.callS X0 hx (y := (⟨"com/example/calends/calends/jats/DatePlaceDisplaysTextPinLaw", "pick", "(I)Lcom/example/calends/calends/jats/DatePlace;"⟩ : MethodName)) hown (mvT hZ (hw _ (List.mem_of_getElem? (i := 1) rfl))) (mvT hZ (hw _ (List.mem_of_getElem? (i := 2) rfl))) (mvT hZ (hw _ (List.mem_of_getElem? (i := 3) rfl))) (mvT hZ (hw _ (List.mem_of_getElem? (i := 4) rfl))) (by decide) (backOf (W := 0) (own_pick l Z a0 hw [] (1 : Int32) v0 v1 v2 v3 v4 v5 v6 v7 v8 h0 n0 Z0 S0 S1 S2 S3 S4 S5 S6 S7 S8) hZ (hw _ (List.mem_of_getElem? (i := 4) rfl)) (hw _ (List.mem_of_getElem? (i := 3) rfl)) (by decide) (by decide)) (g := (mkF m 9 #[.val (.int p1), .val (.int (1 : Int32)), .unset, .unset] [(.int (1 : Int32))])) rfl (by rw [hml]; rfl) (argsL := [(.int (1 : Int32))]) (rest := []) (lenOf own_pd0 rfl) rfl (by show 2 * 0 + _ ≤ _; exact Nat.le_of_eq rfl) (hb hby at_9) (fun _ _ => ⟨rfl, e0, (by decide : 0 + 0 ≤ _), (by decide : 0 + 0 ≤ _)⟩)
    dsimp only [Pt.U, Pt.locs, Pt.cells, Pt.slots] at X3 l3 y3 z3 st3 hQ3
    subst l3 y3 z3
    obtain ⟨hv3, N3q, eh3⟩ := hQ3
    obtain rfl := hv3.trans (by simp : (some (.ref (if (1 : Int32) = (0 : Int32) then v0 else (if (1 : Int32) = (1 : Int32) then v1 else (if (1 : Int32) = (2 : Int32) then v2 else (if (1 : Int32) = (3 : Int32) then v3 else (if (1 : Int32) = (4 : Int32) then v4 else (if (1 : Int32) = (5 : Int32) then v5 else (if (1 : Int32) = (6 : Int32) then v6 else (if (1 : Int32) = (7 : Int32) then v7 else v8))))))))) : Option Value) = some (.ref v1))
    have N3 := Fr.app N0 N3q
    refine own_go st3 ?_
    show own_Fin p.tables e below _ (T3.setTop (mkF m 12 #[.val (.int p1), .val (.int (1 : Int32)), .unset, .unset] [(.ref v1)]))
    refine own_go (fun _ k => XS.astoreN X3.here hx rfl (hb hby at_12) rfl rfl (l' := #[.val (.int p1), .val (.int (1 : Int32)), .val (.ref v1), .unset]) rfl k) ?_
    show own_Fin p.tables e below _ (T3.setTop (mkF m 13 #[.val (.int p1), .val (.int (1 : Int32)), .val (.ref v1), .unset] []))
    refine own_go (fun _ k => XS.iloadN X3.here hx rfl (hb hby at_13) rfl k) ?_
    show own_Fin p.tables e below _ (T3.setTop (mkF m 14 #[.val (.int p1), .val (.int (1 : Int32)), .val (.ref v1), .unset] [(.int (1 : Int32))]))
    refine own_go (fun _ k => XS.iconst X3.here hx rfl (hb hby at_14) k) ?_
    show own_Fin p.tables e below _ (T3.setTop (mkF m 15 #[.val (.int p1), .val (.int (1 : Int32)), .val (.ref v1), .unset] [(.int (2 : Int32)), (.int (1 : Int32))]))
    refine own_go (fun _ k => XS.icmpNo X3.here hx rfl (hb hby at_15) rfl (feq (by decide : ¬ ((1 : Int32) = (2 : Int32)))).1 k) ?_
    show own_Fin p.tables e below _ (T3.setTop (mkF m 18 #[.val (.int p1), .val (.int (1 : Int32)), .val (.ref v1), .unset] []))
    refine own_go (fun _ k => XS.iloadN X3.here hx rfl (hb hby at_18) rfl k) ?_
    show own_Fin p.tables e below _ (T3.setTop (mkF m 19 #[.val (.int p1), .val (.int (1 : Int32)), .val (.ref v1), .unset] [(.int (1 : Int32))]))
    refine own_go (fun _ k => XS.iconst X3.here hx rfl (hb hby at_19) k) ?_
    show own_Fin p.tables e below _ (T3.setTop (mkF m 20 #[.val (.int p1), .val (.int (1 : Int32)), .val (.ref v1), .unset] [(.int (4 : Int32)), (.int (1 : Int32))]))
    refine own_go (fun _ k => XS.icmpNo X3.here hx rfl (hb hby at_20) rfl (feq (by decide : ¬ ((1 : Int32) = (4 : Int32)))).1 k) ?_
    show own_Fin p.tables e below _ (T3.setTop (mkF m 23 #[.val (.int p1), .val (.int (1 : Int32)), .val (.ref v1), .unset] []))
    refine own_go (fun _ k => XS.iloadN X3.here hx rfl (hb hby at_23) rfl k) ?_
    show own_Fin p.tables e below _ (T3.setTop (mkF m 24 #[.val (.int p1), .val (.int (1 : Int32)), .val (.ref v1), .unset] [(.int (1 : Int32))]))
    refine own_go (fun _ k => XS.bipush X3.here hx rfl (hb hby at_24) k) ?_
    show own_Fin p.tables e below _ (T3.setTop (mkF m 26 #[.val (.int p1), .val (.int (1 : Int32)), .val (.ref v1), .unset] [(.int (6 : Int32)), (.int (1 : Int32))]))
    refine own_go (fun _ k => XS.icmpYes X3.here hx rfl (pc0 := 26) (pc' := 33) rfl (hb hby at_26) rfl (tlt (by decide : ((1 : Int32) < (6 : Int32)))).1 (by decide) (by decide) k) ?_
    show own_Fin p.tables e below _ (T3.setTop (mkF m 33 #[.val (.int p1), .val (.int (1 : Int32)), .val (.ref v1), .unset] []))
    refine own_go (fun _ k => XS.iconst X3.here hx rfl (hb hby at_33) k) ?_
    show own_Fin p.tables e below _ (T3.setTop (mkF m 34 #[.val (.int p1), .val (.int (1 : Int32)), .val (.ref v1), .unset] [(.int (0 : Int32))]))
    refine own_go (fun _ k => XS.istoreN X3.here hx rfl (hb hby at_34) rfl (l' := #[.val (.int p1), .val (.int (1 : Int32)), .val (.ref v1), .val (.int (0 : Int32))]) rfl k) ?_
    show own_Fin p.tables e below _ (T3.setTop (mkF m 35 #[.val (.int p1), .val (.int (1 : Int32)), .val (.ref v1), .val (.int (0 : Int32))] []))
    refine own_go (fun _ k => XS.aloadN X3.here hx rfl (hb hby at_35) rfl rfl k) ?_
    show own_Fin p.tables e below _ (T3.setTop (mkF m 36 #[.val (.int p1), .val (.int (1 : Int32)), .val (.ref v1), .val (.int (0 : Int32))] [(.ref v1)]))
    obtain ⟨cq4, kq4, q4a, q4b, q4c⟩ := isOf hZ eh3 E1
    obtain ⟨_, _, ⟨T4, L4, k4, n4⟩, -, X4, ⟨Lc4, hQ4, l4, y4, z4⟩, st4⟩ := X3.virtualBack hx (y := (⟨"com/example/calends/calends/jats/DatePlace", "displaysText", "()Z"⟩ : MethodName)) (z := (⟨"com/example/calends/calends/jats/DatePlace", "displaysText", "()Z"⟩ : MethodName)) hown (mvT hZ (hw _ (List.mem_of_getElem? (i := 8) rfl))) (mvT hZ (hw _ (List.mem_of_getElem? (i := 9) rfl))) (notFace_of_selects (args := #[]) (mvT hZ (hw _ (List.mem_of_getElem? (i := 11) rfl)))) (mvT hZ (hw _ (List.mem_of_getElem? (i := 11) rfl))) (mvT hZ (hw _ (List.mem_of_getElem? (i := 10) rfl))) (by decide) (backOf (W := 0) (own_dt l Z a0 hw [] v1 v4 v6 v7 v8 v2 h0 n0 Z0 S4 S6 S7 S8 S2) hZ (hw _ (List.mem_of_getElem? (i := 12) rfl)) (hw _ (List.mem_of_getElem? (i := 6) rfl)) (by decide) (by decide)) q4a q4c (g := (mkF m 36 #[.val (.int p1), .val (.int (1 : Int32)), .val (.ref v1), .val (.int (0 : Int32))] [(.ref v1)])) rfl (by rw [hml]; rfl) (Steps.refl _) (argsL := []) (rest := []) (lenOf own_pd1 rfl) rfl (by show 2 * 0 + _ ≤ _; exact Nat.le_of_eq rfl) (hb hby at_36) (fun _ _ => ⟨rfl, eh3, (by decide : 0 + 0 ≤ _), (by decide : 0 + 0 ≤ _)⟩)
    dsimp only [Pt.U, Pt.locs, Pt.cells, Pt.slots] at X4 l4 y4 z4 st4 hQ4
    subst l4 y4 z4
    obtain ⟨hv4, N4q, eh4⟩ := hQ4
    obtain rfl := hv4.trans (by simp [ne10, ne21, ne31, ne41, ne51, ne61, ne71, ne81, Ne.symm ne10, Ne.symm ne21, Ne.symm ne31, Ne.symm ne41, Ne.symm ne51, Ne.symm ne61, Ne.symm ne71, Ne.symm ne81] : (some (.int (if v1 = v4 then (1 : Int32) else (if v1 = v6 then (1 : Int32) else (if v1 = v7 then (1 : Int32) else (if v1 = v8 then (1 : Int32) else (if v1 = v2 then (1 : Int32) else (0 : Int32))))))) : Option Value) = some (.int (0 : Int32)))
    have N4 := Fr.app N3 N4q
    refine own_go (fun _ k => st4.trans k) ?_
    show own_Fin p.tables e below _ (T4.setTop (mkF m 39 #[.val (.int p1), .val (.int (1 : Int32)), .val (.ref v1), .val (.int (0 : Int32))] [(.int (0 : Int32))]))
    refine own_go (fun _ k => XS.iloadN X4.here hx rfl (hb hby at_39) rfl k) ?_
    show own_Fin p.tables e below _ (T4.setTop (mkF m 40 #[.val (.int p1), .val (.int (1 : Int32)), .val (.ref v1), .val (.int (0 : Int32))] [(.int (0 : Int32)), (.int (0 : Int32))]))
    refine own_go (fun _ k => XS.icmpNo X4.here hx rfl (hb hby at_40) rfl (teq (by decide : ((0 : Int32) = (0 : Int32)))).2 k) ?_
    show own_Fin p.tables e below _ (T4.setTop (mkF m 43 #[.val (.int p1), .val (.int (1 : Int32)), .val (.ref v1), .val (.int (0 : Int32))] []))
    refine own_go (fun _ k => XS.iconst X4.here hx rfl (hb hby at_43) k) ?_
    show own_Fin p.tables e below _ (T4.setTop (mkF m 44 #[.val (.int p1), .val (.int (1 : Int32)), .val (.ref v1), .val (.int (0 : Int32))] [(.int (1 : Int32))]))
    refine own_go (fun _ k => XS.goto X4.here hx rfl (pc0 := 44) (pc' := 48) rfl (hb hby at_44) (by decide) (by decide) k) ?_
    show own_Fin p.tables e below _ (T4.setTop (mkF m 48 #[.val (.int p1), .val (.int (1 : Int32)), .val (.ref v1), .val (.int (0 : Int32))] [(.int (1 : Int32))]))
    obtain ⟨fs, hr, hrun, hended, hW, hsame⟩ := X4.leave (v := some (.int (1 : Int32))) (fun h => by rw [Bd.returns] at h; cases h)
    refine ⟨_, _, ?_, hrun, hended, _, _, rfl, ?_, ⟨_, rfl⟩, hW, hsame.mono (by decide) (by decide)⟩
    · exact retN X4 hx (t := .boolean) Bd.returns (by simp) (hb hby at_48) hr
    · show Q_own_law Z p1 v0 v1 v2 v3 v4 v5 v6 v7 v8 h0 n0 _ T4.heap _
      rw [eh4]
      exact ⟨rfl, N4⟩
  · rw [hk]
    show own_Fin p.tables e below _ (s₁.setTop (mkF m 8 #[.val (.int p1), .val (.int (2 : Int32)), .unset, .unset] []))
    refine own_go (fun _ k => XS.iloadN X0.here hx rfl (hb hby at_8) rfl k) ?_
    show own_Fin p.tables e below _ (s₁.setTop (mkF m 9 #[.val (.int p1), .val (.int (2 : Int32)), .unset, .unset] [(.int (2 : Int32))]))
    obtain ⟨_, _, ⟨T5, L5, k5, n5⟩, -, X5, ⟨Lc5, hQ5, l5, y5, z5⟩, st5⟩ := Jvm.LawKit.callS X0 hx (y := (⟨"com/example/calends/calends/jats/DatePlaceDisplaysTextPinLaw", "pick", "(I)Lcom/example/calends/calends/jats/DatePlace;"⟩ : MethodName)) hown (mvT hZ (hw _ (List.mem_of_getElem? (i := 1) rfl))) (mvT hZ (hw _ (List.mem_of_getElem? (i := 2) rfl))) (mvT hZ (hw _ (List.mem_of_getElem? (i := 3) rfl))) (mvT hZ (hw _ (List.mem_of_getElem? (i := 4) rfl))) (by decide) (backOf (W := 0) (own_pick l Z a0 hw [] (2 : Int32) v0 v1 v2 v3 v4 v5 v6 v7 v8 h0 n0 Z0 S0 S1 S2 S3 S4 S5 S6 S7 S8) hZ (hw _ (List.mem_of_getElem? (i := 4) rfl)) (hw _ (List.mem_of_getElem? (i := 3) rfl)) (by decide) (by decide)) (g := (mkF m 9 #[.val (.int p1), .val (.int (2 : Int32)), .unset, .unset] [(.int (2 : Int32))])) rfl (by rw [hml]; rfl) (argsL := [(.int (2 : Int32))]) (rest := []) (lenOf own_pd0 rfl) rfl (by show 2 * 0 + _ ≤ _; exact Nat.le_of_eq rfl) (hb hby at_9) (fun _ _ => ⟨rfl, e0, (by decide : 0 + 0 ≤ _), (by decide : 0 + 0 ≤ _)⟩)
    dsimp only [Pt.U, Pt.locs, Pt.cells, Pt.slots] at X5 l5 y5 z5 st5 hQ5
    subst l5 y5 z5
    obtain ⟨hv5, N5q, eh5⟩ := hQ5
    obtain rfl := hv5.trans (by simp : (some (.ref (if (2 : Int32) = (0 : Int32) then v0 else (if (2 : Int32) = (1 : Int32) then v1 else (if (2 : Int32) = (2 : Int32) then v2 else (if (2 : Int32) = (3 : Int32) then v3 else (if (2 : Int32) = (4 : Int32) then v4 else (if (2 : Int32) = (5 : Int32) then v5 else (if (2 : Int32) = (6 : Int32) then v6 else (if (2 : Int32) = (7 : Int32) then v7 else v8))))))))) : Option Value) = some (.ref v2))
    have N5 := Fr.app N0 N5q
    refine own_go st5 ?_
    show own_Fin p.tables e below _ (T5.setTop (mkF m 12 #[.val (.int p1), .val (.int (2 : Int32)), .unset, .unset] [(.ref v2)]))
    refine own_go (fun _ k => XS.astoreN X5.here hx rfl (hb hby at_12) rfl rfl (l' := #[.val (.int p1), .val (.int (2 : Int32)), .val (.ref v2), .unset]) rfl k) ?_
    show own_Fin p.tables e below _ (T5.setTop (mkF m 13 #[.val (.int p1), .val (.int (2 : Int32)), .val (.ref v2), .unset] []))
    refine own_go (fun _ k => XS.iloadN X5.here hx rfl (hb hby at_13) rfl k) ?_
    show own_Fin p.tables e below _ (T5.setTop (mkF m 14 #[.val (.int p1), .val (.int (2 : Int32)), .val (.ref v2), .unset] [(.int (2 : Int32))]))
    refine own_go (fun _ k => XS.iconst X5.here hx rfl (hb hby at_14) k) ?_
    show own_Fin p.tables e below _ (T5.setTop (mkF m 15 #[.val (.int p1), .val (.int (2 : Int32)), .val (.ref v2), .unset] [(.int (2 : Int32)), (.int (2 : Int32))]))
    refine own_go (fun _ k => XS.icmpYes X5.here hx rfl (pc0 := 15) (pc' := 29) rfl (hb hby at_15) rfl (teq (by decide : ((2 : Int32) = (2 : Int32)))).1 (by decide) (by decide) k) ?_
    show own_Fin p.tables e below _ (T5.setTop (mkF m 29 #[.val (.int p1), .val (.int (2 : Int32)), .val (.ref v2), .unset] []))
    refine own_go (fun _ k => XS.iconst X5.here hx rfl (hb hby at_29) k) ?_
    show own_Fin p.tables e below _ (T5.setTop (mkF m 30 #[.val (.int p1), .val (.int (2 : Int32)), .val (.ref v2), .unset] [(.int (1 : Int32))]))
    refine own_go (fun _ k => XS.goto X5.here hx rfl (pc0 := 30) (pc' := 34) rfl (hb hby at_30) (by decide) (by decide) k) ?_
    show own_Fin p.tables e below _ (T5.setTop (mkF m 34 #[.val (.int p1), .val (.int (2 : Int32)), .val (.ref v2), .unset] [(.int (1 : Int32))]))
    refine own_go (fun _ k => XS.istoreN X5.here hx rfl (hb hby at_34) rfl (l' := #[.val (.int p1), .val (.int (2 : Int32)), .val (.ref v2), .val (.int (1 : Int32))]) rfl k) ?_
    show own_Fin p.tables e below _ (T5.setTop (mkF m 35 #[.val (.int p1), .val (.int (2 : Int32)), .val (.ref v2), .val (.int (1 : Int32))] []))
    refine own_go (fun _ k => XS.aloadN X5.here hx rfl (hb hby at_35) rfl rfl k) ?_
    show own_Fin p.tables e below _ (T5.setTop (mkF m 36 #[.val (.int p1), .val (.int (2 : Int32)), .val (.ref v2), .val (.int (1 : Int32))] [(.ref v2)]))
    obtain ⟨cq6, kq6, q6a, q6b, q6c⟩ := isOf hZ eh5 E2
    obtain ⟨_, _, ⟨T6, L6, k6, n6⟩, -, X6, ⟨Lc6, hQ6, l6, y6, z6⟩, st6⟩ := X5.virtualBack hx (y := (⟨"com/example/calends/calends/jats/DatePlace", "displaysText", "()Z"⟩ : MethodName)) (z := (⟨"com/example/calends/calends/jats/DatePlace", "displaysText", "()Z"⟩ : MethodName)) hown (mvT hZ (hw _ (List.mem_of_getElem? (i := 8) rfl))) (mvT hZ (hw _ (List.mem_of_getElem? (i := 9) rfl))) (notFace_of_selects (args := #[]) (mvT hZ (hw _ (List.mem_of_getElem? (i := 11) rfl)))) (mvT hZ (hw _ (List.mem_of_getElem? (i := 11) rfl))) (mvT hZ (hw _ (List.mem_of_getElem? (i := 10) rfl))) (by decide) (backOf (W := 0) (own_dt l Z a0 hw [] v2 v4 v6 v7 v8 v2 h0 n0 Z0 S4 S6 S7 S8 S2) hZ (hw _ (List.mem_of_getElem? (i := 12) rfl)) (hw _ (List.mem_of_getElem? (i := 6) rfl)) (by decide) (by decide)) q6a q6c (g := (mkF m 36 #[.val (.int p1), .val (.int (2 : Int32)), .val (.ref v2), .val (.int (1 : Int32))] [(.ref v2)])) rfl (by rw [hml]; rfl) (Steps.refl _) (argsL := []) (rest := []) (lenOf own_pd1 rfl) rfl (by show 2 * 0 + _ ≤ _; exact Nat.le_of_eq rfl) (hb hby at_36) (fun _ _ => ⟨rfl, eh5, (by decide : 0 + 0 ≤ _), (by decide : 0 + 0 ≤ _)⟩)
    dsimp only [Pt.U, Pt.locs, Pt.cells, Pt.slots] at X6 l6 y6 z6 st6 hQ6
    subst l6 y6 z6
    obtain ⟨hv6, N6q, eh6⟩ := hQ6
    obtain rfl := hv6.trans (by simp [ne20, ne21, ne32, ne42, ne52, ne62, ne72, ne82, Ne.symm ne20, Ne.symm ne21, Ne.symm ne32, Ne.symm ne42, Ne.symm ne52, Ne.symm ne62, Ne.symm ne72, Ne.symm ne82] : (some (.int (if v2 = v4 then (1 : Int32) else (if v2 = v6 then (1 : Int32) else (if v2 = v7 then (1 : Int32) else (if v2 = v8 then (1 : Int32) else (if v2 = v2 then (1 : Int32) else (0 : Int32))))))) : Option Value) = some (.int (1 : Int32)))
    have N6 := Fr.app N5 N6q
    refine own_go (fun _ k => st6.trans k) ?_
    show own_Fin p.tables e below _ (T6.setTop (mkF m 39 #[.val (.int p1), .val (.int (2 : Int32)), .val (.ref v2), .val (.int (1 : Int32))] [(.int (1 : Int32))]))
    refine own_go (fun _ k => XS.iloadN X6.here hx rfl (hb hby at_39) rfl k) ?_
    show own_Fin p.tables e below _ (T6.setTop (mkF m 40 #[.val (.int p1), .val (.int (2 : Int32)), .val (.ref v2), .val (.int (1 : Int32))] [(.int (1 : Int32)), (.int (1 : Int32))]))
    refine own_go (fun _ k => XS.icmpNo X6.here hx rfl (hb hby at_40) rfl (teq (by decide : ((1 : Int32) = (1 : Int32)))).2 k) ?_
    show own_Fin p.tables e below _ (T6.setTop (mkF m 43 #[.val (.int p1), .val (.int (2 : Int32)), .val (.ref v2), .val (.int (1 : Int32))] []))
    refine own_go (fun _ k => XS.iconst X6.here hx rfl (hb hby at_43) k) ?_
    show own_Fin p.tables e below _ (T6.setTop (mkF m 44 #[.val (.int p1), .val (.int (2 : Int32)), .val (.ref v2), .val (.int (1 : Int32))] [(.int (1 : Int32))]))
    refine own_go (fun _ k => XS.goto X6.here hx rfl (pc0 := 44) (pc' := 48) rfl (hb hby at_44) (by decide) (by decide) k) ?_
    show own_Fin p.tables e below _ (T6.setTop (mkF m 48 #[.val (.int p1), .val (.int (2 : Int32)), .val (.ref v2), .val (.int (1 : Int32))] [(.int (1 : Int32))]))
    obtain ⟨fs, hr, hrun, hended, hW, hsame⟩ := X6.leave (v := some (.int (1 : Int32))) (fun h => by rw [Bd.returns] at h; cases h)
    refine ⟨_, _, ?_, hrun, hended, _, _, rfl, ?_, ⟨_, rfl⟩, hW, hsame.mono (by decide) (by decide)⟩
    · exact retN X6 hx (t := .boolean) Bd.returns (by simp) (hb hby at_48) hr
    · show Q_own_law Z p1 v0 v1 v2 v3 v4 v5 v6 v7 v8 h0 n0 _ T6.heap _
      rw [eh6]
      exact ⟨rfl, N6⟩
  · rw [hk]
    show own_Fin p.tables e below _ (s₁.setTop (mkF m 8 #[.val (.int p1), .val (.int (3 : Int32)), .unset, .unset] []))
    refine own_go (fun _ k => XS.iloadN X0.here hx rfl (hb hby at_8) rfl k) ?_
    show own_Fin p.tables e below _ (s₁.setTop (mkF m 9 #[.val (.int p1), .val (.int (3 : Int32)), .unset, .unset] [(.int (3 : Int32))]))
    obtain ⟨_, _, ⟨T7, L7, k7, n7⟩, -, X7, ⟨Lc7, hQ7, l7, y7, z7⟩, st7⟩ := Jvm.LawKit.callS X0 hx (y := (⟨"com/example/calends/calends/jats/DatePlaceDisplaysTextPinLaw", "pick", "(I)Lcom/example/calends/calends/jats/DatePlace;"⟩ : MethodName)) hown (mvT hZ (hw _ (List.mem_of_getElem? (i := 1) rfl))) (mvT hZ (hw _ (List.mem_of_getElem? (i := 2) rfl))) (mvT hZ (hw _ (List.mem_of_getElem? (i := 3) rfl))) (mvT hZ (hw _ (List.mem_of_getElem? (i := 4) rfl))) (by decide) (backOf (W := 0) (own_pick l Z a0 hw [] (3 : Int32) v0 v1 v2 v3 v4 v5 v6 v7 v8 h0 n0 Z0 S0 S1 S2 S3 S4 S5 S6 S7 S8) hZ (hw _ (List.mem_of_getElem? (i := 4) rfl)) (hw _ (List.mem_of_getElem? (i := 3) rfl)) (by decide) (by decide)) (g := (mkF m 9 #[.val (.int p1), .val (.int (3 : Int32)), .unset, .unset] [(.int (3 : Int32))])) rfl (by rw [hml]; rfl) (argsL := [(.int (3 : Int32))]) (rest := []) (lenOf own_pd0 rfl) rfl (by show 2 * 0 + _ ≤ _; exact Nat.le_of_eq rfl) (hb hby at_9) (fun _ _ => ⟨rfl, e0, (by decide : 0 + 0 ≤ _), (by decide : 0 + 0 ≤ _)⟩)
    dsimp only [Pt.U, Pt.locs, Pt.cells, Pt.slots] at X7 l7 y7 z7 st7 hQ7
    subst l7 y7 z7
    obtain ⟨hv7, N7q, eh7⟩ := hQ7
    obtain rfl := hv7.trans (by simp : (some (.ref (if (3 : Int32) = (0 : Int32) then v0 else (if (3 : Int32) = (1 : Int32) then v1 else (if (3 : Int32) = (2 : Int32) then v2 else (if (3 : Int32) = (3 : Int32) then v3 else (if (3 : Int32) = (4 : Int32) then v4 else (if (3 : Int32) = (5 : Int32) then v5 else (if (3 : Int32) = (6 : Int32) then v6 else (if (3 : Int32) = (7 : Int32) then v7 else v8))))))))) : Option Value) = some (.ref v3))
    have N7 := Fr.app N0 N7q
    refine own_go st7 ?_
    show own_Fin p.tables e below _ (T7.setTop (mkF m 12 #[.val (.int p1), .val (.int (3 : Int32)), .unset, .unset] [(.ref v3)]))
    refine own_go (fun _ k => XS.astoreN X7.here hx rfl (hb hby at_12) rfl rfl (l' := #[.val (.int p1), .val (.int (3 : Int32)), .val (.ref v3), .unset]) rfl k) ?_
    show own_Fin p.tables e below _ (T7.setTop (mkF m 13 #[.val (.int p1), .val (.int (3 : Int32)), .val (.ref v3), .unset] []))
    refine own_go (fun _ k => XS.iloadN X7.here hx rfl (hb hby at_13) rfl k) ?_
    show own_Fin p.tables e below _ (T7.setTop (mkF m 14 #[.val (.int p1), .val (.int (3 : Int32)), .val (.ref v3), .unset] [(.int (3 : Int32))]))
    refine own_go (fun _ k => XS.iconst X7.here hx rfl (hb hby at_14) k) ?_
    show own_Fin p.tables e below _ (T7.setTop (mkF m 15 #[.val (.int p1), .val (.int (3 : Int32)), .val (.ref v3), .unset] [(.int (2 : Int32)), (.int (3 : Int32))]))
    refine own_go (fun _ k => XS.icmpNo X7.here hx rfl (hb hby at_15) rfl (feq (by decide : ¬ ((3 : Int32) = (2 : Int32)))).1 k) ?_
    show own_Fin p.tables e below _ (T7.setTop (mkF m 18 #[.val (.int p1), .val (.int (3 : Int32)), .val (.ref v3), .unset] []))
    refine own_go (fun _ k => XS.iloadN X7.here hx rfl (hb hby at_18) rfl k) ?_
    show own_Fin p.tables e below _ (T7.setTop (mkF m 19 #[.val (.int p1), .val (.int (3 : Int32)), .val (.ref v3), .unset] [(.int (3 : Int32))]))
    refine own_go (fun _ k => XS.iconst X7.here hx rfl (hb hby at_19) k) ?_
    show own_Fin p.tables e below _ (T7.setTop (mkF m 20 #[.val (.int p1), .val (.int (3 : Int32)), .val (.ref v3), .unset] [(.int (4 : Int32)), (.int (3 : Int32))]))
    refine own_go (fun _ k => XS.icmpNo X7.here hx rfl (hb hby at_20) rfl (feq (by decide : ¬ ((3 : Int32) = (4 : Int32)))).1 k) ?_
    show own_Fin p.tables e below _ (T7.setTop (mkF m 23 #[.val (.int p1), .val (.int (3 : Int32)), .val (.ref v3), .unset] []))
    refine own_go (fun _ k => XS.iloadN X7.here hx rfl (hb hby at_23) rfl k) ?_
    show own_Fin p.tables e below _ (T7.setTop (mkF m 24 #[.val (.int p1), .val (.int (3 : Int32)), .val (.ref v3), .unset] [(.int (3 : Int32))]))
    refine own_go (fun _ k => XS.bipush X7.here hx rfl (hb hby at_24) k) ?_
    show own_Fin p.tables e below _ (T7.setTop (mkF m 26 #[.val (.int p1), .val (.int (3 : Int32)), .val (.ref v3), .unset] [(.int (6 : Int32)), (.int (3 : Int32))]))
    refine own_go (fun _ k => XS.icmpYes X7.here hx rfl (pc0 := 26) (pc' := 33) rfl (hb hby at_26) rfl (tlt (by decide : ((3 : Int32) < (6 : Int32)))).1 (by decide) (by decide) k) ?_
    show own_Fin p.tables e below _ (T7.setTop (mkF m 33 #[.val (.int p1), .val (.int (3 : Int32)), .val (.ref v3), .unset] []))
    refine own_go (fun _ k => XS.iconst X7.here hx rfl (hb hby at_33) k) ?_
    show own_Fin p.tables e below _ (T7.setTop (mkF m 34 #[.val (.int p1), .val (.int (3 : Int32)), .val (.ref v3), .unset] [(.int (0 : Int32))]))
    refine own_go (fun _ k => XS.istoreN X7.here hx rfl (hb hby at_34) rfl (l' := #[.val (.int p1), .val (.int (3 : Int32)), .val (.ref v3), .val (.int (0 : Int32))]) rfl k) ?_
    show own_Fin p.tables e below _ (T7.setTop (mkF m 35 #[.val (.int p1), .val (.int (3 : Int32)), .val (.ref v3), .val (.int (0 : Int32))] []))
    refine own_go (fun _ k => XS.aloadN X7.here hx rfl (hb hby at_35) rfl rfl k) ?_
    show own_Fin p.tables e below _ (T7.setTop (mkF m 36 #[.val (.int p1), .val (.int (3 : Int32)), .val (.ref v3), .val (.int (0 : Int32))] [(.ref v3)]))
    obtain ⟨cq8, kq8, q8a, q8b, q8c⟩ := isOf hZ eh7 E3
    obtain ⟨_, _, ⟨T8, L8, k8, n8⟩, -, X8, ⟨Lc8, hQ8, l8, y8, z8⟩, st8⟩ := X7.virtualBack hx (y := (⟨"com/example/calends/calends/jats/DatePlace", "displaysText", "()Z"⟩ : MethodName)) (z := (⟨"com/example/calends/calends/jats/DatePlace", "displaysText", "()Z"⟩ : MethodName)) hown (mvT hZ (hw _ (List.mem_of_getElem? (i := 8) rfl))) (mvT hZ (hw _ (List.mem_of_getElem? (i := 9) rfl))) (notFace_of_selects (args := #[]) (mvT hZ (hw _ (List.mem_of_getElem? (i := 11) rfl)))) (mvT hZ (hw _ (List.mem_of_getElem? (i := 11) rfl))) (mvT hZ (hw _ (List.mem_of_getElem? (i := 10) rfl))) (by decide) (backOf (W := 0) (own_dt l Z a0 hw [] v3 v4 v6 v7 v8 v2 h0 n0 Z0 S4 S6 S7 S8 S2) hZ (hw _ (List.mem_of_getElem? (i := 12) rfl)) (hw _ (List.mem_of_getElem? (i := 6) rfl)) (by decide) (by decide)) q8a q8c (g := (mkF m 36 #[.val (.int p1), .val (.int (3 : Int32)), .val (.ref v3), .val (.int (0 : Int32))] [(.ref v3)])) rfl (by rw [hml]; rfl) (Steps.refl _) (argsL := []) (rest := []) (lenOf own_pd1 rfl) rfl (by show 2 * 0 + _ ≤ _; exact Nat.le_of_eq rfl) (hb hby at_36) (fun _ _ => ⟨rfl, eh7, (by decide : 0 + 0 ≤ _), (by decide : 0 + 0 ≤ _)⟩)
    dsimp only [Pt.U, Pt.locs, Pt.cells, Pt.slots] at X8 l8 y8 z8 st8 hQ8
    subst l8 y8 z8
    obtain ⟨hv8, N8q, eh8⟩ := hQ8
    obtain rfl := hv8.trans (by simp [ne30, ne31, ne32, ne43, ne53, ne63, ne73, ne83, Ne.symm ne30, Ne.symm ne31, Ne.symm ne32, Ne.symm ne43, Ne.symm ne53, Ne.symm ne63, Ne.symm ne73, Ne.symm ne83] : (some (.int (if v3 = v4 then (1 : Int32) else (if v3 = v6 then (1 : Int32) else (if v3 = v7 then (1 : Int32) else (if v3 = v8 then (1 : Int32) else (if v3 = v2 then (1 : Int32) else (0 : Int32))))))) : Option Value) = some (.int (0 : Int32)))
    have N8 := Fr.app N7 N8q
    refine own_go (fun _ k => st8.trans k) ?_
    show own_Fin p.tables e below _ (T8.setTop (mkF m 39 #[.val (.int p1), .val (.int (3 : Int32)), .val (.ref v3), .val (.int (0 : Int32))] [(.int (0 : Int32))]))
    refine own_go (fun _ k => XS.iloadN X8.here hx rfl (hb hby at_39) rfl k) ?_
    show own_Fin p.tables e below _ (T8.setTop (mkF m 40 #[.val (.int p1), .val (.int (3 : Int32)), .val (.ref v3), .val (.int (0 : Int32))] [(.int (0 : Int32)), (.int (0 : Int32))]))
    refine own_go (fun _ k => XS.icmpNo X8.here hx rfl (hb hby at_40) rfl (teq (by decide : ((0 : Int32) = (0 : Int32)))).2 k) ?_
    show own_Fin p.tables e below _ (T8.setTop (mkF m 43 #[.val (.int p1), .val (.int (3 : Int32)), .val (.ref v3), .val (.int (0 : Int32))] []))
    refine own_go (fun _ k => XS.iconst X8.here hx rfl (hb hby at_43) k) ?_
    show own_Fin p.tables e below _ (T8.setTop (mkF m 44 #[.val (.int p1), .val (.int (3 : Int32)), .val (.ref v3), .val (.int (0 : Int32))] [(.int (1 : Int32))]))
    refine own_go (fun _ k => XS.goto X8.here hx rfl (pc0 := 44) (pc' := 48) rfl (hb hby at_44) (by decide) (by decide) k) ?_
    show own_Fin p.tables e below _ (T8.setTop (mkF m 48 #[.val (.int p1), .val (.int (3 : Int32)), .val (.ref v3), .val (.int (0 : Int32))] [(.int (1 : Int32))]))
    obtain ⟨fs, hr, hrun, hended, hW, hsame⟩ := X8.leave (v := some (.int (1 : Int32))) (fun h => by rw [Bd.returns] at h; cases h)
    refine ⟨_, _, ?_, hrun, hended, _, _, rfl, ?_, ⟨_, rfl⟩, hW, hsame.mono (by decide) (by decide)⟩
    · exact retN X8 hx (t := .boolean) Bd.returns (by simp) (hb hby at_48) hr
    · show Q_own_law Z p1 v0 v1 v2 v3 v4 v5 v6 v7 v8 h0 n0 _ T8.heap _
      rw [eh8]
      exact ⟨rfl, N8⟩
  · rw [hk]
    show own_Fin p.tables e below _ (s₁.setTop (mkF m 8 #[.val (.int p1), .val (.int (4 : Int32)), .unset, .unset] []))
    refine own_go (fun _ k => XS.iloadN X0.here hx rfl (hb hby at_8) rfl k) ?_
    show own_Fin p.tables e below _ (s₁.setTop (mkF m 9 #[.val (.int p1), .val (.int (4 : Int32)), .unset, .unset] [(.int (4 : Int32))]))
    obtain ⟨_, _, ⟨T9, L9, k9, n9⟩, -, X9, ⟨Lc9, hQ9, l9, y9, z9⟩, st9⟩ := Jvm.LawKit.callS X0 hx (y := (⟨"com/example/calends/calends/jats/DatePlaceDisplaysTextPinLaw", "pick", "(I)Lcom/example/calends/calends/jats/DatePlace;"⟩ : MethodName)) hown (mvT hZ (hw _ (List.mem_of_getElem? (i := 1) rfl))) (mvT hZ (hw _ (List.mem_of_getElem? (i := 2) rfl))) (mvT hZ (hw _ (List.mem_of_getElem? (i := 3) rfl))) (mvT hZ (hw _ (List.mem_of_getElem? (i := 4) rfl))) (by decide) (backOf (W := 0) (own_pick l Z a0 hw [] (4 : Int32) v0 v1 v2 v3 v4 v5 v6 v7 v8 h0 n0 Z0 S0 S1 S2 S3 S4 S5 S6 S7 S8) hZ (hw _ (List.mem_of_getElem? (i := 4) rfl)) (hw _ (List.mem_of_getElem? (i := 3) rfl)) (by decide) (by decide)) (g := (mkF m 9 #[.val (.int p1), .val (.int (4 : Int32)), .unset, .unset] [(.int (4 : Int32))])) rfl (by rw [hml]; rfl) (argsL := [(.int (4 : Int32))]) (rest := []) (lenOf own_pd0 rfl) rfl (by show 2 * 0 + _ ≤ _; exact Nat.le_of_eq rfl) (hb hby at_9) (fun _ _ => ⟨rfl, e0, (by decide : 0 + 0 ≤ _), (by decide : 0 + 0 ≤ _)⟩)
    dsimp only [Pt.U, Pt.locs, Pt.cells, Pt.slots] at X9 l9 y9 z9 st9 hQ9
    subst l9 y9 z9
    obtain ⟨hv9, N9q, eh9⟩ := hQ9
    obtain rfl := hv9.trans (by simp : (some (.ref (if (4 : Int32) = (0 : Int32) then v0 else (if (4 : Int32) = (1 : Int32) then v1 else (if (4 : Int32) = (2 : Int32) then v2 else (if (4 : Int32) = (3 : Int32) then v3 else (if (4 : Int32) = (4 : Int32) then v4 else (if (4 : Int32) = (5 : Int32) then v5 else (if (4 : Int32) = (6 : Int32) then v6 else (if (4 : Int32) = (7 : Int32) then v7 else v8))))))))) : Option Value) = some (.ref v4))
    have N9 := Fr.app N0 N9q
    refine own_go st9 ?_
    show own_Fin p.tables e below _ (T9.setTop (mkF m 12 #[.val (.int p1), .val (.int (4 : Int32)), .unset, .unset] [(.ref v4)]))
    refine own_go (fun _ k => XS.astoreN X9.here hx rfl (hb hby at_12) rfl rfl (l' := #[.val (.int p1), .val (.int (4 : Int32)), .val (.ref v4), .unset]) rfl k) ?_
    show own_Fin p.tables e below _ (T9.setTop (mkF m 13 #[.val (.int p1), .val (.int (4 : Int32)), .val (.ref v4), .unset] []))
    refine own_go (fun _ k => XS.iloadN X9.here hx rfl (hb hby at_13) rfl k) ?_
    show own_Fin p.tables e below _ (T9.setTop (mkF m 14 #[.val (.int p1), .val (.int (4 : Int32)), .val (.ref v4), .unset] [(.int (4 : Int32))]))
    refine own_go (fun _ k => XS.iconst X9.here hx rfl (hb hby at_14) k) ?_
    show own_Fin p.tables e below _ (T9.setTop (mkF m 15 #[.val (.int p1), .val (.int (4 : Int32)), .val (.ref v4), .unset] [(.int (2 : Int32)), (.int (4 : Int32))]))
    refine own_go (fun _ k => XS.icmpNo X9.here hx rfl (hb hby at_15) rfl (feq (by decide : ¬ ((4 : Int32) = (2 : Int32)))).1 k) ?_
    show own_Fin p.tables e below _ (T9.setTop (mkF m 18 #[.val (.int p1), .val (.int (4 : Int32)), .val (.ref v4), .unset] []))
    refine own_go (fun _ k => XS.iloadN X9.here hx rfl (hb hby at_18) rfl k) ?_
    show own_Fin p.tables e below _ (T9.setTop (mkF m 19 #[.val (.int p1), .val (.int (4 : Int32)), .val (.ref v4), .unset] [(.int (4 : Int32))]))
    refine own_go (fun _ k => XS.iconst X9.here hx rfl (hb hby at_19) k) ?_
    show own_Fin p.tables e below _ (T9.setTop (mkF m 20 #[.val (.int p1), .val (.int (4 : Int32)), .val (.ref v4), .unset] [(.int (4 : Int32)), (.int (4 : Int32))]))
    refine own_go (fun _ k => XS.icmpYes X9.here hx rfl (pc0 := 20) (pc' := 29) rfl (hb hby at_20) rfl (teq (by decide : ((4 : Int32) = (4 : Int32)))).1 (by decide) (by decide) k) ?_
    show own_Fin p.tables e below _ (T9.setTop (mkF m 29 #[.val (.int p1), .val (.int (4 : Int32)), .val (.ref v4), .unset] []))
    refine own_go (fun _ k => XS.iconst X9.here hx rfl (hb hby at_29) k) ?_
    show own_Fin p.tables e below _ (T9.setTop (mkF m 30 #[.val (.int p1), .val (.int (4 : Int32)), .val (.ref v4), .unset] [(.int (1 : Int32))]))
    refine own_go (fun _ k => XS.goto X9.here hx rfl (pc0 := 30) (pc' := 34) rfl (hb hby at_30) (by decide) (by decide) k) ?_
    show own_Fin p.tables e below _ (T9.setTop (mkF m 34 #[.val (.int p1), .val (.int (4 : Int32)), .val (.ref v4), .unset] [(.int (1 : Int32))]))
    refine own_go (fun _ k => XS.istoreN X9.here hx rfl (hb hby at_34) rfl (l' := #[.val (.int p1), .val (.int (4 : Int32)), .val (.ref v4), .val (.int (1 : Int32))]) rfl k) ?_
    show own_Fin p.tables e below _ (T9.setTop (mkF m 35 #[.val (.int p1), .val (.int (4 : Int32)), .val (.ref v4), .val (.int (1 : Int32))] []))
    refine own_go (fun _ k => XS.aloadN X9.here hx rfl (hb hby at_35) rfl rfl k) ?_
    show own_Fin p.tables e below _ (T9.setTop (mkF m 36 #[.val (.int p1), .val (.int (4 : Int32)), .val (.ref v4), .val (.int (1 : Int32))] [(.ref v4)]))
    obtain ⟨cq10, kq10, q10a, q10b, q10c⟩ := isOf hZ eh9 E4
    obtain ⟨_, _, ⟨T10, L10, k10, n10⟩, -, X10, ⟨Lc10, hQ10, l10, y10, z10⟩, st10⟩ := X9.virtualBack hx (y := (⟨"com/example/calends/calends/jats/DatePlace", "displaysText", "()Z"⟩ : MethodName)) (z := (⟨"com/example/calends/calends/jats/DatePlace", "displaysText", "()Z"⟩ : MethodName)) hown (mvT hZ (hw _ (List.mem_of_getElem? (i := 8) rfl))) (mvT hZ (hw _ (List.mem_of_getElem? (i := 9) rfl))) (notFace_of_selects (args := #[]) (mvT hZ (hw _ (List.mem_of_getElem? (i := 11) rfl)))) (mvT hZ (hw _ (List.mem_of_getElem? (i := 11) rfl))) (mvT hZ (hw _ (List.mem_of_getElem? (i := 10) rfl))) (by decide) (backOf (W := 0) (own_dt l Z a0 hw [] v4 v4 v6 v7 v8 v2 h0 n0 Z0 S4 S6 S7 S8 S2) hZ (hw _ (List.mem_of_getElem? (i := 12) rfl)) (hw _ (List.mem_of_getElem? (i := 6) rfl)) (by decide) (by decide)) q10a q10c (g := (mkF m 36 #[.val (.int p1), .val (.int (4 : Int32)), .val (.ref v4), .val (.int (1 : Int32))] [(.ref v4)])) rfl (by rw [hml]; rfl) (Steps.refl _) (argsL := []) (rest := []) (lenOf own_pd1 rfl) rfl (by show 2 * 0 + _ ≤ _; exact Nat.le_of_eq rfl) (hb hby at_36) (fun _ _ => ⟨rfl, eh9, (by decide : 0 + 0 ≤ _), (by decide : 0 + 0 ≤ _)⟩)
    dsimp only [Pt.U, Pt.locs, Pt.cells, Pt.slots] at X10 l10 y10 z10 st10 hQ10
    subst l10 y10 z10
    obtain ⟨hv10, N10q, eh10⟩ := hQ10
    obtain rfl := hv10.trans (by simp [ne40, ne41, ne42, ne43, ne54, ne64, ne74, ne84, Ne.symm ne40, Ne.symm ne41, Ne.symm ne42, Ne.symm ne43, Ne.symm ne54, Ne.symm ne64, Ne.symm ne74, Ne.symm ne84] : (some (.int (if v4 = v4 then (1 : Int32) else (if v4 = v6 then (1 : Int32) else (if v4 = v7 then (1 : Int32) else (if v4 = v8 then (1 : Int32) else (if v4 = v2 then (1 : Int32) else (0 : Int32))))))) : Option Value) = some (.int (1 : Int32)))
    have N10 := Fr.app N9 N10q
    refine own_go (fun _ k => st10.trans k) ?_
    show own_Fin p.tables e below _ (T10.setTop (mkF m 39 #[.val (.int p1), .val (.int (4 : Int32)), .val (.ref v4), .val (.int (1 : Int32))] [(.int (1 : Int32))]))
    refine own_go (fun _ k => XS.iloadN X10.here hx rfl (hb hby at_39) rfl k) ?_
    show own_Fin p.tables e below _ (T10.setTop (mkF m 40 #[.val (.int p1), .val (.int (4 : Int32)), .val (.ref v4), .val (.int (1 : Int32))] [(.int (1 : Int32)), (.int (1 : Int32))]))
    refine own_go (fun _ k => XS.icmpNo X10.here hx rfl (hb hby at_40) rfl (teq (by decide : ((1 : Int32) = (1 : Int32)))).2 k) ?_
    show own_Fin p.tables e below _ (T10.setTop (mkF m 43 #[.val (.int p1), .val (.int (4 : Int32)), .val (.ref v4), .val (.int (1 : Int32))] []))
    refine own_go (fun _ k => XS.iconst X10.here hx rfl (hb hby at_43) k) ?_
    show own_Fin p.tables e below _ (T10.setTop (mkF m 44 #[.val (.int p1), .val (.int (4 : Int32)), .val (.ref v4), .val (.int (1 : Int32))] [(.int (1 : Int32))]))
    refine own_go (fun _ k => XS.goto X10.here hx rfl (pc0 := 44) (pc' := 48) rfl (hb hby at_44) (by decide) (by decide) k) ?_
    show own_Fin p.tables e below _ (T10.setTop (mkF m 48 #[.val (.int p1), .val (.int (4 : Int32)), .val (.ref v4), .val (.int (1 : Int32))] [(.int (1 : Int32))]))
    obtain ⟨fs, hr, hrun, hended, hW, hsame⟩ := X10.leave (v := some (.int (1 : Int32))) (fun h => by rw [Bd.returns] at h; cases h)
    refine ⟨_, _, ?_, hrun, hended, _, _, rfl, ?_, ⟨_, rfl⟩, hW, hsame.mono (by decide) (by decide)⟩
    · exact retN X10 hx (t := .boolean) Bd.returns (by simp) (hb hby at_48) hr
    · show Q_own_law Z p1 v0 v1 v2 v3 v4 v5 v6 v7 v8 h0 n0 _ T10.heap _
      rw [eh10]
      exact ⟨rfl, N10⟩
  · rw [hk]
    show own_Fin p.tables e below _ (s₁.setTop (mkF m 8 #[.val (.int p1), .val (.int (5 : Int32)), .unset, .unset] []))
    refine own_go (fun _ k => XS.iloadN X0.here hx rfl (hb hby at_8) rfl k) ?_
    show own_Fin p.tables e below _ (s₁.setTop (mkF m 9 #[.val (.int p1), .val (.int (5 : Int32)), .unset, .unset] [(.int (5 : Int32))]))
    obtain ⟨_, _, ⟨T11, L11, k11, n11⟩, -, X11, ⟨Lc11, hQ11, l11, y11, z11⟩, st11⟩ := Jvm.LawKit.callS X0 hx (y := (⟨"com/example/calends/calends/jats/DatePlaceDisplaysTextPinLaw", "pick", "(I)Lcom/example/calends/calends/jats/DatePlace;"⟩ : MethodName)) hown (mvT hZ (hw _ (List.mem_of_getElem? (i := 1) rfl))) (mvT hZ (hw _ (List.mem_of_getElem? (i := 2) rfl))) (mvT hZ (hw _ (List.mem_of_getElem? (i := 3) rfl))) (mvT hZ (hw _ (List.mem_of_getElem? (i := 4) rfl))) (by decide) (backOf (W := 0) (own_pick l Z a0 hw [] (5 : Int32) v0 v1 v2 v3 v4 v5 v6 v7 v8 h0 n0 Z0 S0 S1 S2 S3 S4 S5 S6 S7 S8) hZ (hw _ (List.mem_of_getElem? (i := 4) rfl)) (hw _ (List.mem_of_getElem? (i := 3) rfl)) (by decide) (by decide)) (g := (mkF m 9 #[.val (.int p1), .val (.int (5 : Int32)), .unset, .unset] [(.int (5 : Int32))])) rfl (by rw [hml]; rfl) (argsL := [(.int (5 : Int32))]) (rest := []) (lenOf own_pd0 rfl) rfl (by show 2 * 0 + _ ≤ _; exact Nat.le_of_eq rfl) (hb hby at_9) (fun _ _ => ⟨rfl, e0, (by decide : 0 + 0 ≤ _), (by decide : 0 + 0 ≤ _)⟩)
    dsimp only [Pt.U, Pt.locs, Pt.cells, Pt.slots] at X11 l11 y11 z11 st11 hQ11
    subst l11 y11 z11
    obtain ⟨hv11, N11q, eh11⟩ := hQ11
    obtain rfl := hv11.trans (by simp : (some (.ref (if (5 : Int32) = (0 : Int32) then v0 else (if (5 : Int32) = (1 : Int32) then v1 else (if (5 : Int32) = (2 : Int32) then v2 else (if (5 : Int32) = (3 : Int32) then v3 else (if (5 : Int32) = (4 : Int32) then v4 else (if (5 : Int32) = (5 : Int32) then v5 else (if (5 : Int32) = (6 : Int32) then v6 else (if (5 : Int32) = (7 : Int32) then v7 else v8))))))))) : Option Value) = some (.ref v5))
    have N11 := Fr.app N0 N11q
    refine own_go st11 ?_
    show own_Fin p.tables e below _ (T11.setTop (mkF m 12 #[.val (.int p1), .val (.int (5 : Int32)), .unset, .unset] [(.ref v5)]))
    refine own_go (fun _ k => XS.astoreN X11.here hx rfl (hb hby at_12) rfl rfl (l' := #[.val (.int p1), .val (.int (5 : Int32)), .val (.ref v5), .unset]) rfl k) ?_
    show own_Fin p.tables e below _ (T11.setTop (mkF m 13 #[.val (.int p1), .val (.int (5 : Int32)), .val (.ref v5), .unset] []))
    refine own_go (fun _ k => XS.iloadN X11.here hx rfl (hb hby at_13) rfl k) ?_
    show own_Fin p.tables e below _ (T11.setTop (mkF m 14 #[.val (.int p1), .val (.int (5 : Int32)), .val (.ref v5), .unset] [(.int (5 : Int32))]))
    refine own_go (fun _ k => XS.iconst X11.here hx rfl (hb hby at_14) k) ?_
    show own_Fin p.tables e below _ (T11.setTop (mkF m 15 #[.val (.int p1), .val (.int (5 : Int32)), .val (.ref v5), .unset] [(.int (2 : Int32)), (.int (5 : Int32))]))
    refine own_go (fun _ k => XS.icmpNo X11.here hx rfl (hb hby at_15) rfl (feq (by decide : ¬ ((5 : Int32) = (2 : Int32)))).1 k) ?_
    show own_Fin p.tables e below _ (T11.setTop (mkF m 18 #[.val (.int p1), .val (.int (5 : Int32)), .val (.ref v5), .unset] []))
    refine own_go (fun _ k => XS.iloadN X11.here hx rfl (hb hby at_18) rfl k) ?_
    show own_Fin p.tables e below _ (T11.setTop (mkF m 19 #[.val (.int p1), .val (.int (5 : Int32)), .val (.ref v5), .unset] [(.int (5 : Int32))]))
    refine own_go (fun _ k => XS.iconst X11.here hx rfl (hb hby at_19) k) ?_
    show own_Fin p.tables e below _ (T11.setTop (mkF m 20 #[.val (.int p1), .val (.int (5 : Int32)), .val (.ref v5), .unset] [(.int (4 : Int32)), (.int (5 : Int32))]))
    refine own_go (fun _ k => XS.icmpNo X11.here hx rfl (hb hby at_20) rfl (feq (by decide : ¬ ((5 : Int32) = (4 : Int32)))).1 k) ?_
    show own_Fin p.tables e below _ (T11.setTop (mkF m 23 #[.val (.int p1), .val (.int (5 : Int32)), .val (.ref v5), .unset] []))
    refine own_go (fun _ k => XS.iloadN X11.here hx rfl (hb hby at_23) rfl k) ?_
    show own_Fin p.tables e below _ (T11.setTop (mkF m 24 #[.val (.int p1), .val (.int (5 : Int32)), .val (.ref v5), .unset] [(.int (5 : Int32))]))
    refine own_go (fun _ k => XS.bipush X11.here hx rfl (hb hby at_24) k) ?_
    show own_Fin p.tables e below _ (T11.setTop (mkF m 26 #[.val (.int p1), .val (.int (5 : Int32)), .val (.ref v5), .unset] [(.int (6 : Int32)), (.int (5 : Int32))]))
    refine own_go (fun _ k => XS.icmpYes X11.here hx rfl (pc0 := 26) (pc' := 33) rfl (hb hby at_26) rfl (tlt (by decide : ((5 : Int32) < (6 : Int32)))).1 (by decide) (by decide) k) ?_
    show own_Fin p.tables e below _ (T11.setTop (mkF m 33 #[.val (.int p1), .val (.int (5 : Int32)), .val (.ref v5), .unset] []))
    refine own_go (fun _ k => XS.iconst X11.here hx rfl (hb hby at_33) k) ?_
    show own_Fin p.tables e below _ (T11.setTop (mkF m 34 #[.val (.int p1), .val (.int (5 : Int32)), .val (.ref v5), .unset] [(.int (0 : Int32))]))
    refine own_go (fun _ k => XS.istoreN X11.here hx rfl (hb hby at_34) rfl (l' := #[.val (.int p1), .val (.int (5 : Int32)), .val (.ref v5), .val (.int (0 : Int32))]) rfl k) ?_
    show own_Fin p.tables e below _ (T11.setTop (mkF m 35 #[.val (.int p1), .val (.int (5 : Int32)), .val (.ref v5), .val (.int (0 : Int32))] []))
    refine own_go (fun _ k => XS.aloadN X11.here hx rfl (hb hby at_35) rfl rfl k) ?_
    show own_Fin p.tables e below _ (T11.setTop (mkF m 36 #[.val (.int p1), .val (.int (5 : Int32)), .val (.ref v5), .val (.int (0 : Int32))] [(.ref v5)]))
    obtain ⟨cq12, kq12, q12a, q12b, q12c⟩ := isOf hZ eh11 E5
    obtain ⟨_, _, ⟨T12, L12, k12, n12⟩, -, X12, ⟨Lc12, hQ12, l12, y12, z12⟩, st12⟩ := X11.virtualBack hx (y := (⟨"com/example/calends/calends/jats/DatePlace", "displaysText", "()Z"⟩ : MethodName)) (z := (⟨"com/example/calends/calends/jats/DatePlace", "displaysText", "()Z"⟩ : MethodName)) hown (mvT hZ (hw _ (List.mem_of_getElem? (i := 8) rfl))) (mvT hZ (hw _ (List.mem_of_getElem? (i := 9) rfl))) (notFace_of_selects (args := #[]) (mvT hZ (hw _ (List.mem_of_getElem? (i := 11) rfl)))) (mvT hZ (hw _ (List.mem_of_getElem? (i := 11) rfl))) (mvT hZ (hw _ (List.mem_of_getElem? (i := 10) rfl))) (by decide) (backOf (W := 0) (own_dt l Z a0 hw [] v5 v4 v6 v7 v8 v2 h0 n0 Z0 S4 S6 S7 S8 S2) hZ (hw _ (List.mem_of_getElem? (i := 12) rfl)) (hw _ (List.mem_of_getElem? (i := 6) rfl)) (by decide) (by decide)) q12a q12c (g := (mkF m 36 #[.val (.int p1), .val (.int (5 : Int32)), .val (.ref v5), .val (.int (0 : Int32))] [(.ref v5)])) rfl (by rw [hml]; rfl) (Steps.refl _) (argsL := []) (rest := []) (lenOf own_pd1 rfl) rfl (by show 2 * 0 + _ ≤ _; exact Nat.le_of_eq rfl) (hb hby at_36) (fun _ _ => ⟨rfl, eh11, (by decide : 0 + 0 ≤ _), (by decide : 0 + 0 ≤ _)⟩)
    dsimp only [Pt.U, Pt.locs, Pt.cells, Pt.slots] at X12 l12 y12 z12 st12 hQ12
    subst l12 y12 z12
    obtain ⟨hv12, N12q, eh12⟩ := hQ12
    obtain rfl := hv12.trans (by simp [ne50, ne51, ne52, ne53, ne54, ne65, ne75, ne85, Ne.symm ne50, Ne.symm ne51, Ne.symm ne52, Ne.symm ne53, Ne.symm ne54, Ne.symm ne65, Ne.symm ne75, Ne.symm ne85] : (some (.int (if v5 = v4 then (1 : Int32) else (if v5 = v6 then (1 : Int32) else (if v5 = v7 then (1 : Int32) else (if v5 = v8 then (1 : Int32) else (if v5 = v2 then (1 : Int32) else (0 : Int32))))))) : Option Value) = some (.int (0 : Int32)))
    have N12 := Fr.app N11 N12q
    refine own_go (fun _ k => st12.trans k) ?_
    show own_Fin p.tables e below _ (T12.setTop (mkF m 39 #[.val (.int p1), .val (.int (5 : Int32)), .val (.ref v5), .val (.int (0 : Int32))] [(.int (0 : Int32))]))
    refine own_go (fun _ k => XS.iloadN X12.here hx rfl (hb hby at_39) rfl k) ?_
    show own_Fin p.tables e below _ (T12.setTop (mkF m 40 #[.val (.int p1), .val (.int (5 : Int32)), .val (.ref v5), .val (.int (0 : Int32))] [(.int (0 : Int32)), (.int (0 : Int32))]))
    refine own_go (fun _ k => XS.icmpNo X12.here hx rfl (hb hby at_40) rfl (teq (by decide : ((0 : Int32) = (0 : Int32)))).2 k) ?_
    show own_Fin p.tables e below _ (T12.setTop (mkF m 43 #[.val (.int p1), .val (.int (5 : Int32)), .val (.ref v5), .val (.int (0 : Int32))] []))
    refine own_go (fun _ k => XS.iconst X12.here hx rfl (hb hby at_43) k) ?_
    show own_Fin p.tables e below _ (T12.setTop (mkF m 44 #[.val (.int p1), .val (.int (5 : Int32)), .val (.ref v5), .val (.int (0 : Int32))] [(.int (1 : Int32))]))
    refine own_go (fun _ k => XS.goto X12.here hx rfl (pc0 := 44) (pc' := 48) rfl (hb hby at_44) (by decide) (by decide) k) ?_
    show own_Fin p.tables e below _ (T12.setTop (mkF m 48 #[.val (.int p1), .val (.int (5 : Int32)), .val (.ref v5), .val (.int (0 : Int32))] [(.int (1 : Int32))]))
    obtain ⟨fs, hr, hrun, hended, hW, hsame⟩ := X12.leave (v := some (.int (1 : Int32))) (fun h => by rw [Bd.returns] at h; cases h)
    refine ⟨_, _, ?_, hrun, hended, _, _, rfl, ?_, ⟨_, rfl⟩, hW, hsame.mono (by decide) (by decide)⟩
    · exact retN X12 hx (t := .boolean) Bd.returns (by simp) (hb hby at_48) hr
    · show Q_own_law Z p1 v0 v1 v2 v3 v4 v5 v6 v7 v8 h0 n0 _ T12.heap _
      rw [eh12]
      exact ⟨rfl, N12⟩
  · rw [hk]
    show own_Fin p.tables e below _ (s₁.setTop (mkF m 8 #[.val (.int p1), .val (.int (6 : Int32)), .unset, .unset] []))
    refine own_go (fun _ k => XS.iloadN X0.here hx rfl (hb hby at_8) rfl k) ?_
    show own_Fin p.tables e below _ (s₁.setTop (mkF m 9 #[.val (.int p1), .val (.int (6 : Int32)), .unset, .unset] [(.int (6 : Int32))]))
    obtain ⟨_, _, ⟨T13, L13, k13, n13⟩, -, X13, ⟨Lc13, hQ13, l13, y13, z13⟩, st13⟩ := Jvm.LawKit.callS X0 hx (y := (⟨"com/example/calends/calends/jats/DatePlaceDisplaysTextPinLaw", "pick", "(I)Lcom/example/calends/calends/jats/DatePlace;"⟩ : MethodName)) hown (mvT hZ (hw _ (List.mem_of_getElem? (i := 1) rfl))) (mvT hZ (hw _ (List.mem_of_getElem? (i := 2) rfl))) (mvT hZ (hw _ (List.mem_of_getElem? (i := 3) rfl))) (mvT hZ (hw _ (List.mem_of_getElem? (i := 4) rfl))) (by decide) (backOf (W := 0) (own_pick l Z a0 hw [] (6 : Int32) v0 v1 v2 v3 v4 v5 v6 v7 v8 h0 n0 Z0 S0 S1 S2 S3 S4 S5 S6 S7 S8) hZ (hw _ (List.mem_of_getElem? (i := 4) rfl)) (hw _ (List.mem_of_getElem? (i := 3) rfl)) (by decide) (by decide)) (g := (mkF m 9 #[.val (.int p1), .val (.int (6 : Int32)), .unset, .unset] [(.int (6 : Int32))])) rfl (by rw [hml]; rfl) (argsL := [(.int (6 : Int32))]) (rest := []) (lenOf own_pd0 rfl) rfl (by show 2 * 0 + _ ≤ _; exact Nat.le_of_eq rfl) (hb hby at_9) (fun _ _ => ⟨rfl, e0, (by decide : 0 + 0 ≤ _), (by decide : 0 + 0 ≤ _)⟩)
    dsimp only [Pt.U, Pt.locs, Pt.cells, Pt.slots] at X13 l13 y13 z13 st13 hQ13
    subst l13 y13 z13
    obtain ⟨hv13, N13q, eh13⟩ := hQ13
    obtain rfl := hv13.trans (by simp : (some (.ref (if (6 : Int32) = (0 : Int32) then v0 else (if (6 : Int32) = (1 : Int32) then v1 else (if (6 : Int32) = (2 : Int32) then v2 else (if (6 : Int32) = (3 : Int32) then v3 else (if (6 : Int32) = (4 : Int32) then v4 else (if (6 : Int32) = (5 : Int32) then v5 else (if (6 : Int32) = (6 : Int32) then v6 else (if (6 : Int32) = (7 : Int32) then v7 else v8))))))))) : Option Value) = some (.ref v6))
    have N13 := Fr.app N0 N13q
    refine own_go st13 ?_
    show own_Fin p.tables e below _ (T13.setTop (mkF m 12 #[.val (.int p1), .val (.int (6 : Int32)), .unset, .unset] [(.ref v6)]))
    refine own_go (fun _ k => XS.astoreN X13.here hx rfl (hb hby at_12) rfl rfl (l' := #[.val (.int p1), .val (.int (6 : Int32)), .val (.ref v6), .unset]) rfl k) ?_
    show own_Fin p.tables e below _ (T13.setTop (mkF m 13 #[.val (.int p1), .val (.int (6 : Int32)), .val (.ref v6), .unset] []))
    refine own_go (fun _ k => XS.iloadN X13.here hx rfl (hb hby at_13) rfl k) ?_
    show own_Fin p.tables e below _ (T13.setTop (mkF m 14 #[.val (.int p1), .val (.int (6 : Int32)), .val (.ref v6), .unset] [(.int (6 : Int32))]))
    refine own_go (fun _ k => XS.iconst X13.here hx rfl (hb hby at_14) k) ?_
    show own_Fin p.tables e below _ (T13.setTop (mkF m 15 #[.val (.int p1), .val (.int (6 : Int32)), .val (.ref v6), .unset] [(.int (2 : Int32)), (.int (6 : Int32))]))
    refine own_go (fun _ k => XS.icmpNo X13.here hx rfl (hb hby at_15) rfl (feq (by decide : ¬ ((6 : Int32) = (2 : Int32)))).1 k) ?_
    show own_Fin p.tables e below _ (T13.setTop (mkF m 18 #[.val (.int p1), .val (.int (6 : Int32)), .val (.ref v6), .unset] []))
    refine own_go (fun _ k => XS.iloadN X13.here hx rfl (hb hby at_18) rfl k) ?_
    show own_Fin p.tables e below _ (T13.setTop (mkF m 19 #[.val (.int p1), .val (.int (6 : Int32)), .val (.ref v6), .unset] [(.int (6 : Int32))]))
    refine own_go (fun _ k => XS.iconst X13.here hx rfl (hb hby at_19) k) ?_
    show own_Fin p.tables e below _ (T13.setTop (mkF m 20 #[.val (.int p1), .val (.int (6 : Int32)), .val (.ref v6), .unset] [(.int (4 : Int32)), (.int (6 : Int32))]))
    refine own_go (fun _ k => XS.icmpNo X13.here hx rfl (hb hby at_20) rfl (feq (by decide : ¬ ((6 : Int32) = (4 : Int32)))).1 k) ?_
    show own_Fin p.tables e below _ (T13.setTop (mkF m 23 #[.val (.int p1), .val (.int (6 : Int32)), .val (.ref v6), .unset] []))
    refine own_go (fun _ k => XS.iloadN X13.here hx rfl (hb hby at_23) rfl k) ?_
    show own_Fin p.tables e below _ (T13.setTop (mkF m 24 #[.val (.int p1), .val (.int (6 : Int32)), .val (.ref v6), .unset] [(.int (6 : Int32))]))
    refine own_go (fun _ k => XS.bipush X13.here hx rfl (hb hby at_24) k) ?_
    show own_Fin p.tables e below _ (T13.setTop (mkF m 26 #[.val (.int p1), .val (.int (6 : Int32)), .val (.ref v6), .unset] [(.int (6 : Int32)), (.int (6 : Int32))]))
    refine own_go (fun _ k => XS.icmpNo X13.here hx rfl (hb hby at_26) rfl (flt (by decide : ¬ ((6 : Int32) < (6 : Int32)))).1 k) ?_
    show own_Fin p.tables e below _ (T13.setTop (mkF m 29 #[.val (.int p1), .val (.int (6 : Int32)), .val (.ref v6), .unset] []))
    refine own_go (fun _ k => XS.iconst X13.here hx rfl (hb hby at_29) k) ?_
    show own_Fin p.tables e below _ (T13.setTop (mkF m 30 #[.val (.int p1), .val (.int (6 : Int32)), .val (.ref v6), .unset] [(.int (1 : Int32))]))
    refine own_go (fun _ k => XS.goto X13.here hx rfl (pc0 := 30) (pc' := 34) rfl (hb hby at_30) (by decide) (by decide) k) ?_
    show own_Fin p.tables e below _ (T13.setTop (mkF m 34 #[.val (.int p1), .val (.int (6 : Int32)), .val (.ref v6), .unset] [(.int (1 : Int32))]))
    refine own_go (fun _ k => XS.istoreN X13.here hx rfl (hb hby at_34) rfl (l' := #[.val (.int p1), .val (.int (6 : Int32)), .val (.ref v6), .val (.int (1 : Int32))]) rfl k) ?_
    show own_Fin p.tables e below _ (T13.setTop (mkF m 35 #[.val (.int p1), .val (.int (6 : Int32)), .val (.ref v6), .val (.int (1 : Int32))] []))
    refine own_go (fun _ k => XS.aloadN X13.here hx rfl (hb hby at_35) rfl rfl k) ?_
    show own_Fin p.tables e below _ (T13.setTop (mkF m 36 #[.val (.int p1), .val (.int (6 : Int32)), .val (.ref v6), .val (.int (1 : Int32))] [(.ref v6)]))
    obtain ⟨cq14, kq14, q14a, q14b, q14c⟩ := isOf hZ eh13 E6
    obtain ⟨_, _, ⟨T14, L14, k14, n14⟩, -, X14, ⟨Lc14, hQ14, l14, y14, z14⟩, st14⟩ := X13.virtualBack hx (y := (⟨"com/example/calends/calends/jats/DatePlace", "displaysText", "()Z"⟩ : MethodName)) (z := (⟨"com/example/calends/calends/jats/DatePlace", "displaysText", "()Z"⟩ : MethodName)) hown (mvT hZ (hw _ (List.mem_of_getElem? (i := 8) rfl))) (mvT hZ (hw _ (List.mem_of_getElem? (i := 9) rfl))) (notFace_of_selects (args := #[]) (mvT hZ (hw _ (List.mem_of_getElem? (i := 11) rfl)))) (mvT hZ (hw _ (List.mem_of_getElem? (i := 11) rfl))) (mvT hZ (hw _ (List.mem_of_getElem? (i := 10) rfl))) (by decide) (backOf (W := 0) (own_dt l Z a0 hw [] v6 v4 v6 v7 v8 v2 h0 n0 Z0 S4 S6 S7 S8 S2) hZ (hw _ (List.mem_of_getElem? (i := 12) rfl)) (hw _ (List.mem_of_getElem? (i := 6) rfl)) (by decide) (by decide)) q14a q14c (g := (mkF m 36 #[.val (.int p1), .val (.int (6 : Int32)), .val (.ref v6), .val (.int (1 : Int32))] [(.ref v6)])) rfl (by rw [hml]; rfl) (Steps.refl _) (argsL := []) (rest := []) (lenOf own_pd1 rfl) rfl (by show 2 * 0 + _ ≤ _; exact Nat.le_of_eq rfl) (hb hby at_36) (fun _ _ => ⟨rfl, eh13, (by decide : 0 + 0 ≤ _), (by decide : 0 + 0 ≤ _)⟩)
    dsimp only [Pt.U, Pt.locs, Pt.cells, Pt.slots] at X14 l14 y14 z14 st14 hQ14
    subst l14 y14 z14
    obtain ⟨hv14, N14q, eh14⟩ := hQ14
    obtain rfl := hv14.trans (by simp [ne60, ne61, ne62, ne63, ne64, ne65, ne76, ne86, Ne.symm ne60, Ne.symm ne61, Ne.symm ne62, Ne.symm ne63, Ne.symm ne64, Ne.symm ne65, Ne.symm ne76, Ne.symm ne86] : (some (.int (if v6 = v4 then (1 : Int32) else (if v6 = v6 then (1 : Int32) else (if v6 = v7 then (1 : Int32) else (if v6 = v8 then (1 : Int32) else (if v6 = v2 then (1 : Int32) else (0 : Int32))))))) : Option Value) = some (.int (1 : Int32)))
    have N14 := Fr.app N13 N14q
    refine own_go (fun _ k => st14.trans k) ?_
    show own_Fin p.tables e below _ (T14.setTop (mkF m 39 #[.val (.int p1), .val (.int (6 : Int32)), .val (.ref v6), .val (.int (1 : Int32))] [(.int (1 : Int32))]))
    refine own_go (fun _ k => XS.iloadN X14.here hx rfl (hb hby at_39) rfl k) ?_
    show own_Fin p.tables e below _ (T14.setTop (mkF m 40 #[.val (.int p1), .val (.int (6 : Int32)), .val (.ref v6), .val (.int (1 : Int32))] [(.int (1 : Int32)), (.int (1 : Int32))]))
    refine own_go (fun _ k => XS.icmpNo X14.here hx rfl (hb hby at_40) rfl (teq (by decide : ((1 : Int32) = (1 : Int32)))).2 k) ?_
    show own_Fin p.tables e below _ (T14.setTop (mkF m 43 #[.val (.int p1), .val (.int (6 : Int32)), .val (.ref v6), .val (.int (1 : Int32))] []))
    refine own_go (fun _ k => XS.iconst X14.here hx rfl (hb hby at_43) k) ?_
    show own_Fin p.tables e below _ (T14.setTop (mkF m 44 #[.val (.int p1), .val (.int (6 : Int32)), .val (.ref v6), .val (.int (1 : Int32))] [(.int (1 : Int32))]))
    refine own_go (fun _ k => XS.goto X14.here hx rfl (pc0 := 44) (pc' := 48) rfl (hb hby at_44) (by decide) (by decide) k) ?_
    show own_Fin p.tables e below _ (T14.setTop (mkF m 48 #[.val (.int p1), .val (.int (6 : Int32)), .val (.ref v6), .val (.int (1 : Int32))] [(.int (1 : Int32))]))
    obtain ⟨fs, hr, hrun, hended, hW, hsame⟩ := X14.leave (v := some (.int (1 : Int32))) (fun h => by rw [Bd.returns] at h; cases h)
    refine ⟨_, _, ?_, hrun, hended, _, _, rfl, ?_, ⟨_, rfl⟩, hW, hsame.mono (by decide) (by decide)⟩
    · exact retN X14 hx (t := .boolean) Bd.returns (by simp) (hb hby at_48) hr
    · show Q_own_law Z p1 v0 v1 v2 v3 v4 v5 v6 v7 v8 h0 n0 _ T14.heap _
      rw [eh14]
      exact ⟨rfl, N14⟩
  · rw [hk]
    show own_Fin p.tables e below _ (s₁.setTop (mkF m 8 #[.val (.int p1), .val (.int (7 : Int32)), .unset, .unset] []))
    refine own_go (fun _ k => XS.iloadN X0.here hx rfl (hb hby at_8) rfl k) ?_
    show own_Fin p.tables e below _ (s₁.setTop (mkF m 9 #[.val (.int p1), .val (.int (7 : Int32)), .unset, .unset] [(.int (7 : Int32))]))
    obtain ⟨_, _, ⟨T15, L15, k15, n15⟩, -, X15, ⟨Lc15, hQ15, l15, y15, z15⟩, st15⟩ := Jvm.LawKit.callS X0 hx (y := (⟨"com/example/calends/calends/jats/DatePlaceDisplaysTextPinLaw", "pick", "(I)Lcom/example/calends/calends/jats/DatePlace;"⟩ : MethodName)) hown (mvT hZ (hw _ (List.mem_of_getElem? (i := 1) rfl))) (mvT hZ (hw _ (List.mem_of_getElem? (i := 2) rfl))) (mvT hZ (hw _ (List.mem_of_getElem? (i := 3) rfl))) (mvT hZ (hw _ (List.mem_of_getElem? (i := 4) rfl))) (by decide) (backOf (W := 0) (own_pick l Z a0 hw [] (7 : Int32) v0 v1 v2 v3 v4 v5 v6 v7 v8 h0 n0 Z0 S0 S1 S2 S3 S4 S5 S6 S7 S8) hZ (hw _ (List.mem_of_getElem? (i := 4) rfl)) (hw _ (List.mem_of_getElem? (i := 3) rfl)) (by decide) (by decide)) (g := (mkF m 9 #[.val (.int p1), .val (.int (7 : Int32)), .unset, .unset] [(.int (7 : Int32))])) rfl (by rw [hml]; rfl) (argsL := [(.int (7 : Int32))]) (rest := []) (lenOf own_pd0 rfl) rfl (by show 2 * 0 + _ ≤ _; exact Nat.le_of_eq rfl) (hb hby at_9) (fun _ _ => ⟨rfl, e0, (by decide : 0 + 0 ≤ _), (by decide : 0 + 0 ≤ _)⟩)
    dsimp only [Pt.U, Pt.locs, Pt.cells, Pt.slots] at X15 l15 y15 z15 st15 hQ15
    subst l15 y15 z15
    obtain ⟨hv15, N15q, eh15⟩ := hQ15
    obtain rfl := hv15.trans (by simp : (some (.ref (if (7 : Int32) = (0 : Int32) then v0 else (if (7 : Int32) = (1 : Int32) then v1 else (if (7 : Int32) = (2 : Int32) then v2 else (if (7 : Int32) = (3 : Int32) then v3 else (if (7 : Int32) = (4 : Int32) then v4 else (if (7 : Int32) = (5 : Int32) then v5 else (if (7 : Int32) = (6 : Int32) then v6 else (if (7 : Int32) = (7 : Int32) then v7 else v8))))))))) : Option Value) = some (.ref v7))
    have N15 := Fr.app N0 N15q
    refine own_go st15 ?_
    show own_Fin p.tables e below _ (T15.setTop (mkF m 12 #[.val (.int p1), .val (.int (7 : Int32)), .unset, .unset] [(.ref v7)]))
    refine own_go (fun _ k => XS.astoreN X15.here hx rfl (hb hby at_12) rfl rfl (l' := #[.val (.int p1), .val (.int (7 : Int32)), .val (.ref v7), .unset]) rfl k) ?_
    show own_Fin p.tables e below _ (T15.setTop (mkF m 13 #[.val (.int p1), .val (.int (7 : Int32)), .val (.ref v7), .unset] []))
    refine own_go (fun _ k => XS.iloadN X15.here hx rfl (hb hby at_13) rfl k) ?_
    show own_Fin p.tables e below _ (T15.setTop (mkF m 14 #[.val (.int p1), .val (.int (7 : Int32)), .val (.ref v7), .unset] [(.int (7 : Int32))]))
    refine own_go (fun _ k => XS.iconst X15.here hx rfl (hb hby at_14) k) ?_
    show own_Fin p.tables e below _ (T15.setTop (mkF m 15 #[.val (.int p1), .val (.int (7 : Int32)), .val (.ref v7), .unset] [(.int (2 : Int32)), (.int (7 : Int32))]))
    refine own_go (fun _ k => XS.icmpNo X15.here hx rfl (hb hby at_15) rfl (feq (by decide : ¬ ((7 : Int32) = (2 : Int32)))).1 k) ?_
    show own_Fin p.tables e below _ (T15.setTop (mkF m 18 #[.val (.int p1), .val (.int (7 : Int32)), .val (.ref v7), .unset] []))
    refine own_go (fun _ k => XS.iloadN X15.here hx rfl (hb hby at_18) rfl k) ?_
    show own_Fin p.tables e below _ (T15.setTop (mkF m 19 #[.val (.int p1), .val (.int (7 : Int32)), .val (.ref v7), .unset] [(.int (7 : Int32))]))
    refine own_go (fun _ k => XS.iconst X15.here hx rfl (hb hby at_19) k) ?_
    show own_Fin p.tables e below _ (T15.setTop (mkF m 20 #[.val (.int p1), .val (.int (7 : Int32)), .val (.ref v7), .unset] [(.int (4 : Int32)), (.int (7 : Int32))]))
    refine own_go (fun _ k => XS.icmpNo X15.here hx rfl (hb hby at_20) rfl (feq (by decide : ¬ ((7 : Int32) = (4 : Int32)))).1 k) ?_
    show own_Fin p.tables e below _ (T15.setTop (mkF m 23 #[.val (.int p1), .val (.int (7 : Int32)), .val (.ref v7), .unset] []))
    refine own_go (fun _ k => XS.iloadN X15.here hx rfl (hb hby at_23) rfl k) ?_
    show own_Fin p.tables e below _ (T15.setTop (mkF m 24 #[.val (.int p1), .val (.int (7 : Int32)), .val (.ref v7), .unset] [(.int (7 : Int32))]))
    refine own_go (fun _ k => XS.bipush X15.here hx rfl (hb hby at_24) k) ?_
    show own_Fin p.tables e below _ (T15.setTop (mkF m 26 #[.val (.int p1), .val (.int (7 : Int32)), .val (.ref v7), .unset] [(.int (6 : Int32)), (.int (7 : Int32))]))
    refine own_go (fun _ k => XS.icmpNo X15.here hx rfl (hb hby at_26) rfl (flt (by decide : ¬ ((7 : Int32) < (6 : Int32)))).1 k) ?_
    show own_Fin p.tables e below _ (T15.setTop (mkF m 29 #[.val (.int p1), .val (.int (7 : Int32)), .val (.ref v7), .unset] []))
    refine own_go (fun _ k => XS.iconst X15.here hx rfl (hb hby at_29) k) ?_
    show own_Fin p.tables e below _ (T15.setTop (mkF m 30 #[.val (.int p1), .val (.int (7 : Int32)), .val (.ref v7), .unset] [(.int (1 : Int32))]))
    refine own_go (fun _ k => XS.goto X15.here hx rfl (pc0 := 30) (pc' := 34) rfl (hb hby at_30) (by decide) (by decide) k) ?_
    show own_Fin p.tables e below _ (T15.setTop (mkF m 34 #[.val (.int p1), .val (.int (7 : Int32)), .val (.ref v7), .unset] [(.int (1 : Int32))]))
    refine own_go (fun _ k => XS.istoreN X15.here hx rfl (hb hby at_34) rfl (l' := #[.val (.int p1), .val (.int (7 : Int32)), .val (.ref v7), .val (.int (1 : Int32))]) rfl k) ?_
    show own_Fin p.tables e below _ (T15.setTop (mkF m 35 #[.val (.int p1), .val (.int (7 : Int32)), .val (.ref v7), .val (.int (1 : Int32))] []))
    refine own_go (fun _ k => XS.aloadN X15.here hx rfl (hb hby at_35) rfl rfl k) ?_
    show own_Fin p.tables e below _ (T15.setTop (mkF m 36 #[.val (.int p1), .val (.int (7 : Int32)), .val (.ref v7), .val (.int (1 : Int32))] [(.ref v7)]))
    obtain ⟨cq16, kq16, q16a, q16b, q16c⟩ := isOf hZ eh15 E7
    obtain ⟨_, _, ⟨T16, L16, k16, n16⟩, -, X16, ⟨Lc16, hQ16, l16, y16, z16⟩, st16⟩ := X15.virtualBack hx (y := (⟨"com/example/calends/calends/jats/DatePlace", "displaysText", "()Z"⟩ : MethodName)) (z := (⟨"com/example/calends/calends/jats/DatePlace", "displaysText", "()Z"⟩ : MethodName)) hown (mvT hZ (hw _ (List.mem_of_getElem? (i := 8) rfl))) (mvT hZ (hw _ (List.mem_of_getElem? (i := 9) rfl))) (notFace_of_selects (args := #[]) (mvT hZ (hw _ (List.mem_of_getElem? (i := 11) rfl)))) (mvT hZ (hw _ (List.mem_of_getElem? (i := 11) rfl))) (mvT hZ (hw _ (List.mem_of_getElem? (i := 10) rfl))) (by decide) (backOf (W := 0) (own_dt l Z a0 hw [] v7 v4 v6 v7 v8 v2 h0 n0 Z0 S4 S6 S7 S8 S2) hZ (hw _ (List.mem_of_getElem? (i := 12) rfl)) (hw _ (List.mem_of_getElem? (i := 6) rfl)) (by decide) (by decide)) q16a q16c (g := (mkF m 36 #[.val (.int p1), .val (.int (7 : Int32)), .val (.ref v7), .val (.int (1 : Int32))] [(.ref v7)])) rfl (by rw [hml]; rfl) (Steps.refl _) (argsL := []) (rest := []) (lenOf own_pd1 rfl) rfl (by show 2 * 0 + _ ≤ _; exact Nat.le_of_eq rfl) (hb hby at_36) (fun _ _ => ⟨rfl, eh15, (by decide : 0 + 0 ≤ _), (by decide : 0 + 0 ≤ _)⟩)
    dsimp only [Pt.U, Pt.locs, Pt.cells, Pt.slots] at X16 l16 y16 z16 st16 hQ16
    subst l16 y16 z16
    obtain ⟨hv16, N16q, eh16⟩ := hQ16
    obtain rfl := hv16.trans (by simp [ne70, ne71, ne72, ne73, ne74, ne75, ne76, ne87, Ne.symm ne70, Ne.symm ne71, Ne.symm ne72, Ne.symm ne73, Ne.symm ne74, Ne.symm ne75, Ne.symm ne76, Ne.symm ne87] : (some (.int (if v7 = v4 then (1 : Int32) else (if v7 = v6 then (1 : Int32) else (if v7 = v7 then (1 : Int32) else (if v7 = v8 then (1 : Int32) else (if v7 = v2 then (1 : Int32) else (0 : Int32))))))) : Option Value) = some (.int (1 : Int32)))
    have N16 := Fr.app N15 N16q
    refine own_go (fun _ k => st16.trans k) ?_
    show own_Fin p.tables e below _ (T16.setTop (mkF m 39 #[.val (.int p1), .val (.int (7 : Int32)), .val (.ref v7), .val (.int (1 : Int32))] [(.int (1 : Int32))]))
    refine own_go (fun _ k => XS.iloadN X16.here hx rfl (hb hby at_39) rfl k) ?_
    show own_Fin p.tables e below _ (T16.setTop (mkF m 40 #[.val (.int p1), .val (.int (7 : Int32)), .val (.ref v7), .val (.int (1 : Int32))] [(.int (1 : Int32)), (.int (1 : Int32))]))
    refine own_go (fun _ k => XS.icmpNo X16.here hx rfl (hb hby at_40) rfl (teq (by decide : ((1 : Int32) = (1 : Int32)))).2 k) ?_
    show own_Fin p.tables e below _ (T16.setTop (mkF m 43 #[.val (.int p1), .val (.int (7 : Int32)), .val (.ref v7), .val (.int (1 : Int32))] []))
    refine own_go (fun _ k => XS.iconst X16.here hx rfl (hb hby at_43) k) ?_
    show own_Fin p.tables e below _ (T16.setTop (mkF m 44 #[.val (.int p1), .val (.int (7 : Int32)), .val (.ref v7), .val (.int (1 : Int32))] [(.int (1 : Int32))]))
    refine own_go (fun _ k => XS.goto X16.here hx rfl (pc0 := 44) (pc' := 48) rfl (hb hby at_44) (by decide) (by decide) k) ?_
    show own_Fin p.tables e below _ (T16.setTop (mkF m 48 #[.val (.int p1), .val (.int (7 : Int32)), .val (.ref v7), .val (.int (1 : Int32))] [(.int (1 : Int32))]))
    obtain ⟨fs, hr, hrun, hended, hW, hsame⟩ := X16.leave (v := some (.int (1 : Int32))) (fun h => by rw [Bd.returns] at h; cases h)
    refine ⟨_, _, ?_, hrun, hended, _, _, rfl, ?_, ⟨_, rfl⟩, hW, hsame.mono (by decide) (by decide)⟩
    · exact retN X16 hx (t := .boolean) Bd.returns (by simp) (hb hby at_48) hr
    · show Q_own_law Z p1 v0 v1 v2 v3 v4 v5 v6 v7 v8 h0 n0 _ T16.heap _
      rw [eh16]
      exact ⟨rfl, N16⟩
  · rw [hk]
    show own_Fin p.tables e below _ (s₁.setTop (mkF m 8 #[.val (.int p1), .val (.int (8 : Int32)), .unset, .unset] []))
    refine own_go (fun _ k => XS.iloadN X0.here hx rfl (hb hby at_8) rfl k) ?_
    show own_Fin p.tables e below _ (s₁.setTop (mkF m 9 #[.val (.int p1), .val (.int (8 : Int32)), .unset, .unset] [(.int (8 : Int32))]))
    obtain ⟨_, _, ⟨T17, L17, k17, n17⟩, -, X17, ⟨Lc17, hQ17, l17, y17, z17⟩, st17⟩ := Jvm.LawKit.callS X0 hx (y := (⟨"com/example/calends/calends/jats/DatePlaceDisplaysTextPinLaw", "pick", "(I)Lcom/example/calends/calends/jats/DatePlace;"⟩ : MethodName)) hown (mvT hZ (hw _ (List.mem_of_getElem? (i := 1) rfl))) (mvT hZ (hw _ (List.mem_of_getElem? (i := 2) rfl))) (mvT hZ (hw _ (List.mem_of_getElem? (i := 3) rfl))) (mvT hZ (hw _ (List.mem_of_getElem? (i := 4) rfl))) (by decide) (backOf (W := 0) (own_pick l Z a0 hw [] (8 : Int32) v0 v1 v2 v3 v4 v5 v6 v7 v8 h0 n0 Z0 S0 S1 S2 S3 S4 S5 S6 S7 S8) hZ (hw _ (List.mem_of_getElem? (i := 4) rfl)) (hw _ (List.mem_of_getElem? (i := 3) rfl)) (by decide) (by decide)) (g := (mkF m 9 #[.val (.int p1), .val (.int (8 : Int32)), .unset, .unset] [(.int (8 : Int32))])) rfl (by rw [hml]; rfl) (argsL := [(.int (8 : Int32))]) (rest := []) (lenOf own_pd0 rfl) rfl (by show 2 * 0 + _ ≤ _; exact Nat.le_of_eq rfl) (hb hby at_9) (fun _ _ => ⟨rfl, e0, (by decide : 0 + 0 ≤ _), (by decide : 0 + 0 ≤ _)⟩)
    dsimp only [Pt.U, Pt.locs, Pt.cells, Pt.slots] at X17 l17 y17 z17 st17 hQ17
    subst l17 y17 z17
    obtain ⟨hv17, N17q, eh17⟩ := hQ17
    obtain rfl := hv17.trans (by simp : (some (.ref (if (8 : Int32) = (0 : Int32) then v0 else (if (8 : Int32) = (1 : Int32) then v1 else (if (8 : Int32) = (2 : Int32) then v2 else (if (8 : Int32) = (3 : Int32) then v3 else (if (8 : Int32) = (4 : Int32) then v4 else (if (8 : Int32) = (5 : Int32) then v5 else (if (8 : Int32) = (6 : Int32) then v6 else (if (8 : Int32) = (7 : Int32) then v7 else v8))))))))) : Option Value) = some (.ref v8))
    have N17 := Fr.app N0 N17q
    refine own_go st17 ?_
    show own_Fin p.tables e below _ (T17.setTop (mkF m 12 #[.val (.int p1), .val (.int (8 : Int32)), .unset, .unset] [(.ref v8)]))
    refine own_go (fun _ k => XS.astoreN X17.here hx rfl (hb hby at_12) rfl rfl (l' := #[.val (.int p1), .val (.int (8 : Int32)), .val (.ref v8), .unset]) rfl k) ?_
    show own_Fin p.tables e below _ (T17.setTop (mkF m 13 #[.val (.int p1), .val (.int (8 : Int32)), .val (.ref v8), .unset] []))
    refine own_go (fun _ k => XS.iloadN X17.here hx rfl (hb hby at_13) rfl k) ?_
    show own_Fin p.tables e below _ (T17.setTop (mkF m 14 #[.val (.int p1), .val (.int (8 : Int32)), .val (.ref v8), .unset] [(.int (8 : Int32))]))
    refine own_go (fun _ k => XS.iconst X17.here hx rfl (hb hby at_14) k) ?_
    show own_Fin p.tables e below _ (T17.setTop (mkF m 15 #[.val (.int p1), .val (.int (8 : Int32)), .val (.ref v8), .unset] [(.int (2 : Int32)), (.int (8 : Int32))]))
    refine own_go (fun _ k => XS.icmpNo X17.here hx rfl (hb hby at_15) rfl (feq (by decide : ¬ ((8 : Int32) = (2 : Int32)))).1 k) ?_
    show own_Fin p.tables e below _ (T17.setTop (mkF m 18 #[.val (.int p1), .val (.int (8 : Int32)), .val (.ref v8), .unset] []))
    refine own_go (fun _ k => XS.iloadN X17.here hx rfl (hb hby at_18) rfl k) ?_
    show own_Fin p.tables e below _ (T17.setTop (mkF m 19 #[.val (.int p1), .val (.int (8 : Int32)), .val (.ref v8), .unset] [(.int (8 : Int32))]))
    refine own_go (fun _ k => XS.iconst X17.here hx rfl (hb hby at_19) k) ?_
    show own_Fin p.tables e below _ (T17.setTop (mkF m 20 #[.val (.int p1), .val (.int (8 : Int32)), .val (.ref v8), .unset] [(.int (4 : Int32)), (.int (8 : Int32))]))
    refine own_go (fun _ k => XS.icmpNo X17.here hx rfl (hb hby at_20) rfl (feq (by decide : ¬ ((8 : Int32) = (4 : Int32)))).1 k) ?_
    show own_Fin p.tables e below _ (T17.setTop (mkF m 23 #[.val (.int p1), .val (.int (8 : Int32)), .val (.ref v8), .unset] []))
    refine own_go (fun _ k => XS.iloadN X17.here hx rfl (hb hby at_23) rfl k) ?_
    show own_Fin p.tables e below _ (T17.setTop (mkF m 24 #[.val (.int p1), .val (.int (8 : Int32)), .val (.ref v8), .unset] [(.int (8 : Int32))]))
    refine own_go (fun _ k => XS.bipush X17.here hx rfl (hb hby at_24) k) ?_
    show own_Fin p.tables e below _ (T17.setTop (mkF m 26 #[.val (.int p1), .val (.int (8 : Int32)), .val (.ref v8), .unset] [(.int (6 : Int32)), (.int (8 : Int32))]))
    refine own_go (fun _ k => XS.icmpNo X17.here hx rfl (hb hby at_26) rfl (flt (by decide : ¬ ((8 : Int32) < (6 : Int32)))).1 k) ?_
    show own_Fin p.tables e below _ (T17.setTop (mkF m 29 #[.val (.int p1), .val (.int (8 : Int32)), .val (.ref v8), .unset] []))
    refine own_go (fun _ k => XS.iconst X17.here hx rfl (hb hby at_29) k) ?_
    show own_Fin p.tables e below _ (T17.setTop (mkF m 30 #[.val (.int p1), .val (.int (8 : Int32)), .val (.ref v8), .unset] [(.int (1 : Int32))]))
    refine own_go (fun _ k => XS.goto X17.here hx rfl (pc0 := 30) (pc' := 34) rfl (hb hby at_30) (by decide) (by decide) k) ?_
    show own_Fin p.tables e below _ (T17.setTop (mkF m 34 #[.val (.int p1), .val (.int (8 : Int32)), .val (.ref v8), .unset] [(.int (1 : Int32))]))
    refine own_go (fun _ k => XS.istoreN X17.here hx rfl (hb hby at_34) rfl (l' := #[.val (.int p1), .val (.int (8 : Int32)), .val (.ref v8), .val (.int (1 : Int32))]) rfl k) ?_
    show own_Fin p.tables e below _ (T17.setTop (mkF m 35 #[.val (.int p1), .val (.int (8 : Int32)), .val (.ref v8), .val (.int (1 : Int32))] []))
    refine own_go (fun _ k => XS.aloadN X17.here hx rfl (hb hby at_35) rfl rfl k) ?_
    show own_Fin p.tables e below _ (T17.setTop (mkF m 36 #[.val (.int p1), .val (.int (8 : Int32)), .val (.ref v8), .val (.int (1 : Int32))] [(.ref v8)]))
    obtain ⟨cq18, kq18, q18a, q18b, q18c⟩ := isOf hZ eh17 E8
    obtain ⟨_, _, ⟨T18, L18, k18, n18⟩, -, X18, ⟨Lc18, hQ18, l18, y18, z18⟩, st18⟩ := X17.virtualBack hx (y := (⟨"com/example/calends/calends/jats/DatePlace", "displaysText", "()Z"⟩ : MethodName)) (z := (⟨"com/example/calends/calends/jats/DatePlace", "displaysText", "()Z"⟩ : MethodName)) hown (mvT hZ (hw _ (List.mem_of_getElem? (i := 8) rfl))) (mvT hZ (hw _ (List.mem_of_getElem? (i := 9) rfl))) (notFace_of_selects (args := #[]) (mvT hZ (hw _ (List.mem_of_getElem? (i := 11) rfl)))) (mvT hZ (hw _ (List.mem_of_getElem? (i := 11) rfl))) (mvT hZ (hw _ (List.mem_of_getElem? (i := 10) rfl))) (by decide) (backOf (W := 0) (own_dt l Z a0 hw [] v8 v4 v6 v7 v8 v2 h0 n0 Z0 S4 S6 S7 S8 S2) hZ (hw _ (List.mem_of_getElem? (i := 12) rfl)) (hw _ (List.mem_of_getElem? (i := 6) rfl)) (by decide) (by decide)) q18a q18c (g := (mkF m 36 #[.val (.int p1), .val (.int (8 : Int32)), .val (.ref v8), .val (.int (1 : Int32))] [(.ref v8)])) rfl (by rw [hml]; rfl) (Steps.refl _) (argsL := []) (rest := []) (lenOf own_pd1 rfl) rfl (by show 2 * 0 + _ ≤ _; exact Nat.le_of_eq rfl) (hb hby at_36) (fun _ _ => ⟨rfl, eh17, (by decide : 0 + 0 ≤ _), (by decide : 0 + 0 ≤ _)⟩)
    dsimp only [Pt.U, Pt.locs, Pt.cells, Pt.slots] at X18 l18 y18 z18 st18 hQ18
    subst l18 y18 z18
    obtain ⟨hv18, N18q, eh18⟩ := hQ18
    obtain rfl := hv18.trans (by simp [ne80, ne81, ne82, ne83, ne84, ne85, ne86, ne87, Ne.symm ne80, Ne.symm ne81, Ne.symm ne82, Ne.symm ne83, Ne.symm ne84, Ne.symm ne85, Ne.symm ne86, Ne.symm ne87] : (some (.int (if v8 = v4 then (1 : Int32) else (if v8 = v6 then (1 : Int32) else (if v8 = v7 then (1 : Int32) else (if v8 = v8 then (1 : Int32) else (if v8 = v2 then (1 : Int32) else (0 : Int32))))))) : Option Value) = some (.int (1 : Int32)))
    have N18 := Fr.app N17 N18q
    refine own_go (fun _ k => st18.trans k) ?_
    show own_Fin p.tables e below _ (T18.setTop (mkF m 39 #[.val (.int p1), .val (.int (8 : Int32)), .val (.ref v8), .val (.int (1 : Int32))] [(.int (1 : Int32))]))
    refine own_go (fun _ k => XS.iloadN X18.here hx rfl (hb hby at_39) rfl k) ?_
    show own_Fin p.tables e below _ (T18.setTop (mkF m 40 #[.val (.int p1), .val (.int (8 : Int32)), .val (.ref v8), .val (.int (1 : Int32))] [(.int (1 : Int32)), (.int (1 : Int32))]))
    refine own_go (fun _ k => XS.icmpNo X18.here hx rfl (hb hby at_40) rfl (teq (by decide : ((1 : Int32) = (1 : Int32)))).2 k) ?_
    show own_Fin p.tables e below _ (T18.setTop (mkF m 43 #[.val (.int p1), .val (.int (8 : Int32)), .val (.ref v8), .val (.int (1 : Int32))] []))
    refine own_go (fun _ k => XS.iconst X18.here hx rfl (hb hby at_43) k) ?_
    show own_Fin p.tables e below _ (T18.setTop (mkF m 44 #[.val (.int p1), .val (.int (8 : Int32)), .val (.ref v8), .val (.int (1 : Int32))] [(.int (1 : Int32))]))
    refine own_go (fun _ k => XS.goto X18.here hx rfl (pc0 := 44) (pc' := 48) rfl (hb hby at_44) (by decide) (by decide) k) ?_
    show own_Fin p.tables e below _ (T18.setTop (mkF m 48 #[.val (.int p1), .val (.int (8 : Int32)), .val (.ref v8), .val (.int (1 : Int32))] [(.int (1 : Int32))]))
    obtain ⟨fs, hr, hrun, hended, hW, hsame⟩ := X18.leave (v := some (.int (1 : Int32))) (fun h => by rw [Bd.returns] at h; cases h)
    refine ⟨_, _, ?_, hrun, hended, _, _, rfl, ?_, ⟨_, rfl⟩, hW, hsame.mono (by decide) (by decide)⟩
    · exact retN X18 hx (t := .boolean) Bd.returns (by simp) (hb hby at_48) hr
    · show Q_own_law Z p1 v0 v1 v2 v3 v4 v5 v6 v7 v8 h0 n0 _ T18.heap _
      rw [eh18]
      exact ⟨rfl, N18⟩
set_option maxRecDepth 65536 in
set_option maxHeartbeats 40000000 in
theorem comes_1 {Post : Tables → Env → Array Value → State → Outcome → State → Prop} (hpost : ∀ tb e args s v u, (limb_1_1.after args s (.returned v) u = true ∧ limb_1_2.after args s (.returned v) u = true ∧ True) → FrameEnd s (.returned v) u (Jvm.fieldLocs frame_1_writes args s ++ Jvm.arrayLocs frame_1_arrays args s ++ Jvm.staticLocs frame_1_statics s) 0 0 → Post tb e args s (.returned v) u) :
    ArmFor flags0 classFile x code maxLocals ret World_1 tables_1 room_1 Calls_1 rest_1 Pre_1 Post := by
  intro l hfl _ _ p e ha hc hk s m args below hf hA hF happ hP
  obtain ⟨hcalls, hrest, hpre⟩ := hP
  obtain ⟨-, -, -, hnamed, -, -, -, hat⟩ := (Spec.applies_iff hf).mp happ
  obtain ⟨hg, hn⟩ := and_e (Cond.before_iff.mp (show (Jvm.Cond.and given_1 narrow_1).before args s = true from hpre))
  obtain ⟨gcount, gr0⟩ := and_e hg
  obtain ⟨w0, rfl⟩ : ∃ w0 : Value, args = #[w0] := by
    have hs : args.size = 1 := by simpa [Cond.value, given_1] using gcount
    obtain ⟨L⟩ := args
    match L, hs with
    | [w0], _ => exact ⟨w0, rfl⟩
  have hw := fun d (hd : d ∈ tables_1) => atoms_spec (ws := Jvm.Cond.code x code maxLocals ret :: tables_1) hat d (List.mem_cons_of_mem _ hd)
  have hfit : Fit s := fun {y c} hc i hi => by
    obtain ⟨ha, rfl⟩ := Array.getElem?_eq_some_iff.mp hc
    have q := List.all_eq_true.mp ((Array.all_eq_true_iff_forall_mem.mp hF) _ (Array.getElem_mem ha)) i (List.mem_range.mpr hi)
    simpa [Array.getElem?_eq_getElem hi] using q
  obtain ⟨i0, ei0⟩ := is_v gr0
  obtain rfl : w0 = (.int i0) := Option.some.inj ei0
  obtain ⟨n0, r0⟩ := and_e hn
  obtain ⟨n1, r1⟩ := and_e r0
  obtain ⟨n2, r2⟩ := and_e r1
  obtain ⟨n3, r3⟩ := and_e r2
  obtain ⟨n4, r4⟩ := and_e r3
  obtain ⟨n5, r5⟩ := and_e r4
  obtain ⟨n6, r6⟩ := and_e r5
  obtain ⟨n7, r7⟩ := and_e r6
  obtain ⟨n8, r8⟩ := and_e r7
  obtain ⟨n9, r9⟩ := and_e r8
  obtain ⟨n10, r10⟩ := and_e r9
  obtain ⟨n11, r11⟩ := and_e r10
  obtain ⟨n12, r12⟩ := and_e r11
  obtain ⟨n13, r13⟩ := and_e r12
  obtain ⟨n14, r14⟩ := and_e r13
  obtain ⟨n15, r15⟩ := and_e r14
  obtain ⟨n16, r16⟩ := and_e r15
  have n17 := r16
  obtain ⟨v0, e0⟩ := exa_v n0
  have F0 := own_fld e0 (own_eqI n2)
  obtain ⟨v1, e1⟩ := exa_v n14
  have F1 := own_fld e1 (own_eqI n15)
  obtain ⟨v2, e2⟩ := exa_v n10
  have F2 := own_fld e2 (own_eqI n11)
  obtain ⟨v3, e3⟩ := exa_v n12
  have F3 := own_fld e3 (own_eqI n13)
  obtain ⟨v4, e4⟩ := exa_v n1
  have F4 := own_fld e4 (own_eqI n3)
  obtain ⟨v5, e5⟩ := exa_v n16
  have F5 := own_fld e5 (own_eqI n17)
  obtain ⟨v6, e6⟩ := exa_v n4
  have F6 := own_fld e6 (own_eqI n5)
  obtain ⟨v7, e7⟩ := exa_v n6
  have F7 := own_fld e7 (own_eqI n7)
  obtain ⟨v8, e8⟩ := exa_v n8
  have F8 := own_fld e8 (own_eqI n9)
  obtain ⟨n, o, h1, h2, h3, _, L, rfl, ⟨rfl, N⟩, hq⟩ := own_law l s _ hw tables_1 i0 v0 v1 v2 v3 v4 v5 v6 v7 v8 s.heap s.heap.size (Nat.le_refl _) (Sta.start e0 (Or.inr ⟨(hw _ (List.mem_of_getElem? (i := 6) rfl)), (hw _ (List.mem_of_getElem? (i := 7) rfl))⟩)) (Sta.start e1 (Or.inr ⟨(hw _ (List.mem_of_getElem? (i := 6) rfl)), (hw _ (List.mem_of_getElem? (i := 27) rfl))⟩)) (Sta.start e2 (Or.inr ⟨(hw _ (List.mem_of_getElem? (i := 6) rfl)), (hw _ (List.mem_of_getElem? (i := 22) rfl))⟩)) (Sta.start e3 (Or.inr ⟨(hw _ (List.mem_of_getElem? (i := 6) rfl)), (hw _ (List.mem_of_getElem? (i := 24) rfl))⟩)) (Sta.start e4 (Or.inr ⟨(hw _ (List.mem_of_getElem? (i := 6) rfl)), (hw _ (List.mem_of_getElem? (i := 14) rfl))⟩)) (Sta.start e5 (Or.inr ⟨(hw _ (List.mem_of_getElem? (i := 6) rfl)), (hw _ (List.mem_of_getElem? (i := 33) rfl))⟩)) (Sta.start e6 (Or.inr ⟨(hw _ (List.mem_of_getElem? (i := 6) rfl)), (hw _ (List.mem_of_getElem? (i := 16) rfl))⟩)) (Sta.start e7 (Or.inr ⟨(hw _ (List.mem_of_getElem? (i := 6) rfl)), (hw _ (List.mem_of_getElem? (i := 18) rfl))⟩)) (Sta.start e8 (Or.inr ⟨(hw _ (List.mem_of_getElem? (i := 6) rfl)), (hw _ (List.mem_of_getElem? (i := 20) rfl))⟩)) (Exa.start e0 n0) (Exa.start e1 n14) (Exa.start e2 n10) (Exa.start e3 n12) (Exa.start e4 n1) (Exa.start e5 n16) (Exa.start e6 n4) (Exa.start e7 n6) (Exa.start e8 n8) (Fld.ne F1 F0 (fun q => absurd (Value.int.inj q) (by decide))) (Fld.ne F2 F0 (fun q => absurd (Value.int.inj q) (by decide))) (Fld.ne F2 F1 (fun q => absurd (Value.int.inj q) (by decide))) (Fld.ne F3 F0 (fun q => absurd (Value.int.inj q) (by decide))) (Fld.ne F3 F1 (fun q => absurd (Value.int.inj q) (by decide))) (Fld.ne F3 F2 (fun q => absurd (Value.int.inj q) (by decide))) (Fld.ne F4 F0 (fun q => absurd (Value.int.inj q) (by decide))) (Fld.ne F4 F1 (fun q => absurd (Value.int.inj q) (by decide))) (Fld.ne F4 F2 (fun q => absurd (Value.int.inj q) (by decide))) (Fld.ne F4 F3 (fun q => absurd (Value.int.inj q) (by decide))) (Fld.ne F5 F0 (fun q => absurd (Value.int.inj q) (by decide))) (Fld.ne F5 F1 (fun q => absurd (Value.int.inj q) (by decide))) (Fld.ne F5 F2 (fun q => absurd (Value.int.inj q) (by decide))) (Fld.ne F5 F3 (fun q => absurd (Value.int.inj q) (by decide))) (Fld.ne F5 F4 (fun q => absurd (Value.int.inj q) (by decide))) (Fld.ne F6 F0 (fun q => absurd (Value.int.inj q) (by decide))) (Fld.ne F6 F1 (fun q => absurd (Value.int.inj q) (by decide))) (Fld.ne F6 F2 (fun q => absurd (Value.int.inj q) (by decide))) (Fld.ne F6 F3 (fun q => absurd (Value.int.inj q) (by decide))) (Fld.ne F6 F4 (fun q => absurd (Value.int.inj q) (by decide))) (Fld.ne F6 F5 (fun q => absurd (Value.int.inj q) (by decide))) (Fld.ne F7 F0 (fun q => absurd (Value.int.inj q) (by decide))) (Fld.ne F7 F1 (fun q => absurd (Value.int.inj q) (by decide))) (Fld.ne F7 F2 (fun q => absurd (Value.int.inj q) (by decide))) (Fld.ne F7 F3 (fun q => absurd (Value.int.inj q) (by decide))) (Fld.ne F7 F4 (fun q => absurd (Value.int.inj q) (by decide))) (Fld.ne F7 F5 (fun q => absurd (Value.int.inj q) (by decide))) (Fld.ne F7 F6 (fun q => absurd (Value.int.inj q) (by decide))) (Fld.ne F8 F0 (fun q => absurd (Value.int.inj q) (by decide))) (Fld.ne F8 F1 (fun q => absurd (Value.int.inj q) (by decide))) (Fld.ne F8 F2 (fun q => absurd (Value.int.inj q) (by decide))) (Fld.ne F8 F3 (fun q => absurd (Value.int.inj q) (by decide))) (Fld.ne F8 F4 (fun q => absurd (Value.int.inj q) (by decide))) (Fld.ne F8 F5 (fun q => absurd (Value.int.inj q) (by decide))) (Fld.ne F8 F6 (fun q => absurd (Value.int.inj q) (by decide))) (Fld.ne F8 F7 (fun q => absurd (Value.int.inj q) (by decide))) p e ha hc hk s m _ below hf ((Spec.applies_iff_loose hf).mp happ).1 ⟨rfl, State.Warmed39.refl s, rfl⟩ trivial
  refine ⟨n, _, h1, h2, h3, hpost _ _ _ _ _ _ ⟨Cond.after_iff.mpr rfl, Cond.after_iff.mpr (eq_i res_at (Term.int_eval (1)) rfl), trivial⟩ ⟨hq.1, hq.2.1, (hq.2.2.sift fun y hy => Or.inr (N y hy)).mono (by decide) (by decide)⟩⟩
theorem main_1_1 : Claimed_1_1 := comes_1 fun _ _ _ _ _ _ h hF => ⟨h.1, hF⟩
theorem main_1_2 : Claimed_1_2 := comes_1 fun _ _ _ _ _ _ h hF => ⟨h.2.1, hF⟩
end Jvm.Pilot.@@N@@
namespace Jvm.Pilot.@@N@@
open Jvm Jvm.ClassFile Sem Op Lib Jvm.Free Jvm.Stand Jvm.Pilot.@@N@@.Jvm.D
/-! MADE BY PROGRAM (witnessworld.py) out of the Statement's table words and the real class files: 12 classes; the members and pool entries that the words name. The judged class is class 1, her method 1. -/
namespace start1
open Jvm.ClassFile
def u (s : String) : CpInfo := .utf8 (stringToUtf16 s)
/-- a pool by its gaps: so many unusable entries, then the entry; so many at the end -/
def gap : Nat → List CpInfo → List CpInfo
  | 0, r => r
  | n + 1, r => .unusable :: gap n r
def poolList (es : List (Nat × CpInfo)) (last : Nat) : List CpInfo := es.foldr (fun e r => gap e.1 (e.2 :: r)) (gap last [])
def pool (es : List (Nat × CpInfo)) (last : Nat) : Array CpInfo := ⟨poolList es last⟩
def fileOf (pool : Array CpInfo) (this : Nat) (attrs : Array Attribute := #[]) (ms : Array MethodInfo := #[]) (fl : Nat := 33) (sup : Nat := 0) (ifs : Array Nat := #[]) (fds : Array FieldInfo := #[]) : ClassFile where
  minorVersion := 0
  majorVersion := 65
  constantPool := pool
  accessFlags := fl
  thisClass := this
  superClass := sup
  interfaces := ifs
  fields := fds
  methods := ms
  attributes := attrs
def plain (name : String) (sup : Option ClassId) : Class where
  name := name
  kind := .ordinary
  loader := none
  accessFlags := 33
  super := sup
  interfaces := #[]
  cf := none
  fields := #[]
  methods := #[]
  instanceTypes := #[]
  staticTypes := #[]
  resolved := #[]
  callSites := []
  init := .initialized
  statics := none
  mirror := none

def pool0 : Array CpInfo := pool [(5, u "<init>"), (0, u "()V"), (1, .class_ 10), (1, u "java/lang/Object")] 113

def k0m0 : Method := { name := "<init>", desc := "()V", sig := { parameters := [], returnType := none }, accessFlags := 1, code := none }
/-- java/lang/Object -/
def k0 : Class := { plain "java/lang/Object" none with
  accessFlags := 33
  interfaces := #[]
  cf := some (fileOf pool0 8 #[] #[{ accessFlags := 1, nameIndex := 5, descriptorIndex := 6, attributes := #[] }] 33 0 #[] #[])
  fields := #[]
  methods := #[k0m0]
  instanceTypes := #[]
  staticTypes := #[]
  resolved := Array.replicate 124 none
  statics := none }

def pool1 : Array CpInfo := pool [(2, .class_ 4), (1, u "java/lang/Object"), (0, u "<init>"), (0, u "()V"), (0, .integer 2147483647), (0, .methodref 9 10), (0, .class_ 11), (0, .nameAndType 12 13), (0, u "com/example/calends/calends/jats/DatePlaceDisplaysTextPinLaw"), (0, u "pick"), (0, u "(I)Lcom/example/calends/calends/jats/DatePlace;"), (0, .methodref 15 16), (0, .class_ 17), (0, .nameAndType 18 19), (0, u "com/example/calends/calends/jats/DatePlace"), (0, u "displaysText"), (0, u "()Z"), (0, .fieldref 15 21), (0, .nameAndType 22 23), (0, u "PUB_DATE"), (0, u "Lcom/example/calends/calends/jats/DatePlace;"), (0, .fieldref 15 25), (0, .nameAndType 26 23), (0, u "DATE"), (0, .fieldref 15 28), (0, .nameAndType 29 23), (0, u "DATE_IN_CITATION"), (0, .fieldref 15 31), (0, .nameAndType 32 23), (0, u "ELEMENT_CITATION"), (0, .fieldref 15 34), (0, .nameAndType 35 23), (0, u "MIXED_CITATION"), (0, .fieldref 15 37), (0, .nameAndType 38 23), (0, u "NLM_CITATION"), (0, .fieldref 15 40), (0, .nameAndType 41 23), (0, u "PRODUCT"), (0, .fieldref 15 43), (0, .nameAndType 44 23), (0, u "RELATED_ARTICLE"), (0, .fieldref 15 46), (0, .nameAndType 47 23), (0, u "RELATED_OBJECT"), (2, u "law"), (0, u "(I)Z")] 3

def k1m0 : Method := { name := "<init>", desc := "()V", sig := { parameters := [], returnType := none }, accessFlags := 1, code := none }
def k1c1 : Code := { maxStack := 2, maxLocals := 4, code := code, exceptionTable := #[], attributes := #[] }
def k1m1 : Method := { name := "law", desc := "(I)Z", sig := { parameters := [.int], returnType := some .boolean }, accessFlags := 9, code := some k1c1 }
def k1c2 : Code := { maxStack := 2, maxLocals := 1, code := method_3_code, exceptionTable := #[], attributes := #[] }
def k1m2 : Method := { name := "pick", desc := "(I)Lcom/example/calends/calends/jats/DatePlace;", sig := { parameters := [.int], returnType := some (.object "com/example/calends/calends/jats/DatePlace") }, accessFlags := 10, code := some k1c2 }
/-- com/example/calends/calends/jats/DatePlaceDisplaysTextPinLaw -/
def k1 : Class := { plain "com/example/calends/calends/jats/DatePlaceDisplaysTextPinLaw" (some 0) with
  accessFlags := 49
  interfaces := #[]
  cf := some (fileOf pool1 9 #[] #[{ accessFlags := 1, nameIndex := 5, descriptorIndex := 6, attributes := #[] }, { accessFlags := 9, nameIndex := 50, descriptorIndex := 51, attributes := #[] }, { accessFlags := 10, nameIndex := 12, descriptorIndex := 13, attributes := #[] }] 49 2 #[] #[])
  fields := #[]
  methods := #[k1m0, k1m1, k1m2]
  instanceTypes := #[]
  staticTypes := #[]
  resolved := Array.replicate 55 none
  statics := none }

def pool2 : Array CpInfo := pool [(1, .class_ 2), (0, u "java/lang/constant/Constable"), (0, .class_ 4), (0, u "java/lang/Object")] 6

/-- java/lang/constant/Constable -/
def k2 : Class := { plain "java/lang/constant/Constable" (some 0) with
  accessFlags := 1537
  interfaces := #[]
  cf := some (fileOf pool2 1 #[] #[] 1537 3 #[] #[])
  fields := #[]
  methods := #[]
  instanceTypes := #[]
  staticTypes := #[]
  resolved := Array.replicate 11 none
  statics := none }

def pool3 : Array CpInfo := pool [(1, .class_ 2), (0, u "java/lang/Comparable"), (0, .class_ 4), (0, u "java/lang/Object")] 7

/-- java/lang/Comparable -/
def k3 : Class := { plain "java/lang/Comparable" (some 0) with
  accessFlags := 1537
  interfaces := #[]
  cf := some (fileOf pool3 1 #[] #[] 1537 3 #[] #[])
  fields := #[]
  methods := #[]
  instanceTypes := #[]
  staticTypes := #[]
  resolved := Array.replicate 12 none
  statics := none }

def pool4 : Array CpInfo := pool [(1, .class_ 2), (0, u "java/io/Serializable"), (0, .class_ 4), (0, u "java/lang/Object")] 2

/-- java/io/Serializable -/
def k4 : Class := { plain "java/io/Serializable" (some 0) with
  accessFlags := 1537
  interfaces := #[]
  cf := some (fileOf pool4 1 #[] #[] 1537 3 #[] #[])
  fields := #[]
  methods := #[]
  instanceTypes := #[]
  staticTypes := #[]
  resolved := Array.replicate 7 none
  statics := none }

def pool5 : Array CpInfo := pool [(2, .class_ 4), (1, u "java/lang/Enum"), (0, u "name"), (0, u "Ljava/lang/String;"), (2, u "ordinal"), (0, u "I"), (1, .class_ 14), (1, u "java/lang/Object"), (4, u "hash"), (86, .class_ 108), (1, u "java/lang/Enum$EnumDesc"), (2, .class_ 112), (0, u "java/lang/constant/Constable"), (0, .class_ 114), (0, u "java/lang/Comparable"), (0, .class_ 116), (0, u "java/io/Serializable")] 87

/-- java/lang/Enum -/
def k5 : Class := { plain "java/lang/Enum" (some 0) with
  accessFlags := 1057
  interfaces := #[2, 3, 4]
  cf := some (fileOf pool5 2 #[.nestMembers #[106]] #[] 1057 12 #[111, 113, 115] #[{ accessFlags := 18, nameIndex := 5, descriptorIndex := 6, attributes := #[] }, { accessFlags := 18, nameIndex := 9, descriptorIndex := 10, attributes := #[] }, { accessFlags := 2, nameIndex := 19, descriptorIndex := 10, attributes := #[] }])
  fields := #[{ name := "name", type := (.object "java/lang/String"), accessFlags := 18, slot := 0, constantValue := 0 }, { name := "ordinal", type := .int, accessFlags := 18, slot := 1, constantValue := 0 }, { name := "hash", type := .int, accessFlags := 2, slot := 2, constantValue := 0 }]
  methods := #[]
  instanceTypes := #[(.object "java/lang/String"), .int, .int]
  staticTypes := #[]
  resolved := Array.replicate 204 none
  statics := none }

def pool6 : Array CpInfo := pool [(1, .class_ 2), (0, u "com/example/calends/calends/jats/DatePlace"), (2, u "PUB_DATE"), (0, u "Lcom/example/calends/calends/jats/DatePlace;"), (2, u "DATE"), (0, .fieldref 1 11), (0, .nameAndType 12 6), (0, u "DATE_IN_CITATION"), (2, u "ELEMENT_CITATION"), (0, .fieldref 1 17), (0, .nameAndType 18 6), (0, u "MIXED_CITATION"), (2, u "NLM_CITATION"), (0, .fieldref 1 23), (0, .nameAndType 24 6), (0, u "PRODUCT"), (0, .fieldref 1 26), (0, .nameAndType 27 6), (0, u "RELATED_ARTICLE"), (0, .fieldref 1 29), (0, .nameAndType 30 6), (0, u "RELATED_OBJECT"), (2, u "$VALUES"), (0, u "[Lcom/example/calends/calends/jats/DatePlace;"), (6, .class_ 43), (1, u "java/lang/Enum"), (8, u "elementName"), (0, u "Ljava/lang/String;"), (8, u "kindAttributes"), (0, u "Ljava/util/List;"), (2, u "BY_ELEMENT_NAME"), (0, u "Ljava/util/Map;"), (92, u "()Z"), (2, u "displaysText")] 35

def k6c0 : Code := { maxStack := 2, maxLocals := 1, code := prog_39_method_8_code, exceptionTable := #[], attributes := #[] }
def k6m0 : Method := { name := "displaysText", desc := "()Z", sig := { parameters := [], returnType := some .boolean }, accessFlags := 1, code := some k6c0 }
/-- com/example/calends/calends/jats/DatePlace -/
def k6 : Class := { plain "com/example/calends/calends/jats/DatePlace" (some 5) with
  accessFlags := 16433
  interfaces := #[]
  cf := some (fileOf pool6 1 #[] #[{ accessFlags := 1, nameIndex := 163, descriptorIndex := 160, attributes := #[] }] 16433 41 #[] #[{ accessFlags := 16409, nameIndex := 5, descriptorIndex := 6, attributes := #[] }, { accessFlags := 16409, nameIndex := 9, descriptorIndex := 6, attributes := #[] }, { accessFlags := 16409, nameIndex := 12, descriptorIndex := 6, attributes := #[] }, { accessFlags := 16409, nameIndex := 15, descriptorIndex := 6, attributes := #[] }, { accessFlags := 16409, nameIndex := 18, descriptorIndex := 6, attributes := #[] }, { accessFlags := 16409, nameIndex := 21, descriptorIndex := 6, attributes := #[] }, { accessFlags := 16409, nameIndex := 24, descriptorIndex := 6, attributes := #[] }, { accessFlags := 16409, nameIndex := 27, descriptorIndex := 6, attributes := #[] }, { accessFlags := 16409, nameIndex := 30, descriptorIndex := 6, attributes := #[] }, { accessFlags := 26, nameIndex := 66, descriptorIndex := 67, attributes := #[] }, { accessFlags := 18, nameIndex := 52, descriptorIndex := 53, attributes := #[] }, { accessFlags := 18, nameIndex := 62, descriptorIndex := 63, attributes := #[] }, { accessFlags := 4122, nameIndex := 33, descriptorIndex := 34, attributes := #[] }])
  fields := #[{ name := "PUB_DATE", type := (.object "com/example/calends/calends/jats/DatePlace"), accessFlags := 16409, slot := 0, constantValue := 0 }, { name := "DATE", type := (.object "com/example/calends/calends/jats/DatePlace"), accessFlags := 16409, slot := 1, constantValue := 0 }, { name := "DATE_IN_CITATION", type := (.object "com/example/calends/calends/jats/DatePlace"), accessFlags := 16409, slot := 2, constantValue := 0 }, { name := "ELEMENT_CITATION", type := (.object "com/example/calends/calends/jats/DatePlace"), accessFlags := 16409, slot := 3, constantValue := 0 }, { name := "MIXED_CITATION", type := (.object "com/example/calends/calends/jats/DatePlace"), accessFlags := 16409, slot := 4, constantValue := 0 }, { name := "NLM_CITATION", type := (.object "com/example/calends/calends/jats/DatePlace"), accessFlags := 16409, slot := 5, constantValue := 0 }, { name := "PRODUCT", type := (.object "com/example/calends/calends/jats/DatePlace"), accessFlags := 16409, slot := 6, constantValue := 0 }, { name := "RELATED_ARTICLE", type := (.object "com/example/calends/calends/jats/DatePlace"), accessFlags := 16409, slot := 7, constantValue := 0 }, { name := "RELATED_OBJECT", type := (.object "com/example/calends/calends/jats/DatePlace"), accessFlags := 16409, slot := 8, constantValue := 0 }, { name := "BY_ELEMENT_NAME", type := (.object "java/util/Map"), accessFlags := 26, slot := 9, constantValue := 0 }, { name := "elementName", type := (.object "java/lang/String"), accessFlags := 18, slot := 3, constantValue := 0 }, { name := "kindAttributes", type := (.object "java/util/List"), accessFlags := 18, slot := 4, constantValue := 0 }, { name := "$VALUES", type := (.array (.object "com/example/calends/calends/jats/DatePlace")), accessFlags := 4122, slot := 10, constantValue := 0 }]
  methods := #[k6m0]
  instanceTypes := #[(.object "java/lang/String"), .int, .int, (.object "java/lang/String"), (.object "java/util/List")]
  staticTypes := #[(.object "com/example/calends/calends/jats/DatePlace"), (.object "com/example/calends/calends/jats/DatePlace"), (.object "com/example/calends/calends/jats/DatePlace"), (.object "com/example/calends/calends/jats/DatePlace"), (.object "com/example/calends/calends/jats/DatePlace"), (.object "com/example/calends/calends/jats/DatePlace"), (.object "com/example/calends/calends/jats/DatePlace"), (.object "com/example/calends/calends/jats/DatePlace"), (.object "com/example/calends/calends/jats/DatePlace"), (.object "java/util/Map"), (.array (.object "com/example/calends/calends/jats/DatePlace"))]
  resolved := Array.replicate 199 none
  statics := some 0 }

def pool7 : Array CpInfo := pool [(1, u "java/lang/Cloneable"), (0, .class_ 1), (0, u "java/lang/Object"), (0, .class_ 3)] 3

/-- java/lang/Cloneable -/
def k7 : Class := { plain "java/lang/Cloneable" (some 0) with
  accessFlags := 1537
  interfaces := #[]
  cf := some (fileOf pool7 2 #[] #[] 1537 4 #[] #[])
  fields := #[]
  methods := #[]
  instanceTypes := #[]
  staticTypes := #[]
  resolved := Array.replicate 8 none
  statics := none }

/-- the primitive byte -/
def k8 : Class := { plain "byte" none with kind := .primitive 'B', accessFlags := 0x411 }
/-- [B -/
def k9 : Class := { plain "[B" (some 0) with kind := .array 8 .byte, interfaces := #[7, 4], accessFlags := 1041 }

/-- the primitive int -/
def k10 : Class := { plain "int" none with kind := .primitive 'I', accessFlags := 0x411 }
/-- [I -/
def k11 : Class := { plain "[I" (some 0) with kind := .array 10 .int, interfaces := #[7, 4], accessFlags := 1041 }

def heap : Heap := #[{ cls := 6, slots := #[.ref 1, .ref 2, .ref 3, .ref 4, .ref 5, .ref 6, .ref 7, .ref 8, .ref 9, .null, .null], vm := .statics 6 },
  { cls := 6, slots := #[.null, .int 0, .int 0, .null, .null], vm := .none },
  { cls := 6, slots := #[.null, .int 1, .int 0, .null, .null], vm := .none },
  { cls := 6, slots := #[.null, .int 2, .int 0, .null, .null], vm := .none },
  { cls := 6, slots := #[.null, .int 3, .int 0, .null, .null], vm := .none },
  { cls := 6, slots := #[.null, .int 4, .int 0, .null, .null], vm := .none },
  { cls := 6, slots := #[.null, .int 5, .int 0, .null, .null], vm := .none },
  { cls := 6, slots := #[.null, .int 6, .int 0, .null, .null], vm := .none },
  { cls := 6, slots := #[.null, .int 7, .int 0, .null, .null], vm := .none },
  { cls := 6, slots := #[.null, .int 8, .int 0, .null, .null], vm := .none }]
def classes : Array Class := #[k0, k1, k2, k3, k4, k5, k6, k7, k8, k9, k10, k11]
def interned : List (Array UInt16 × Addr) := []
def slotsUsed : Nat := 56
def theMethod : MethodId := ⟨1, 1⟩
def args0 : Array Value := #[.int 0]
def aboutOver (below : List Frame) : State where
  vm := { classes := classes, interned := interned.toArray }
  heap := heap
  slotsUsed := slotsUsed
  threads := #[{ frames := .invoking theMethod args0 :: below }]
def below0 : List Frame := [.native { method := ⟨0, 0⟩, args := #[] }]
def about1 : State := aboutOver below0
def p0 : Program := .bare "" "" ""
def e0 : Env := launch0.env 0 0 0
theorem w_frames : about1.frames = Frame.invoking theMethod args0 :: below0 := rfl
set_option maxRecDepth 65536 in
theorem w_args : argsFit about1.vm theMethod args0 = true := by decide +kernel
set_option maxRecDepth 65536 in
theorem w_heap : heapFits about1 = true := by decide +kernel
set_option maxRecDepth 65536 in
theorem w_runnable : about1.curStatus? = some .runnable := by decide +kernel
set_option maxRecDepth 65536 in
theorem w_alone : about1.alone = true := by decide +kernel
set_option maxRecDepth 65536 in
theorem w_named : about1.methodNamed? x = some theMethod := by decide +kernel
set_option maxRecDepth 65536 in
theorem w_hears : about1.hears theMethod below0 = true := by decide +kernel
set_option maxRecDepth 65536 in
theorem w_ripe : about1.ripe theMethod args0 below0 = true := by decide +kernel
theorem w_running : about1.status = .running := rfl
set_option maxRecDepth 65536 in
theorem w_room : about1.hasRoom e0.platform room_1 = true :=
  launch0.hasRoom_least _ room_1 (by decide +kernel) (by decide +kernel) (by decide +kernel) (by decide +kernel) (by decide +kernel) (by decide +kernel)
theorem allAtoms_all (ts : List Jvm.Cond) (a : Array Jvm.Value) (st : Jvm.State) : (allAtoms ts).before a st = ts.all (fun c => c.before a st) := by
  induction ts with
  | nil => rfl
  | cons c t ih =>
    show (Jvm.Cond.and c (allAtoms t)).before a st = _
    rw [Jvm.Cond.before_and, ih, List.all_cons]
def words1 : List Jvm.Cond := Jvm.Cond.code x code maxLocals ret :: tables_1
/-- a 'code' word, met by the world's own term for the bytes: nothing is compared byte by byte -/
theorem code_word {y : MethodName} {bytes : ByteArray} {mx : Nat} {rt : Option FieldType} {a : Array Value} {s : State} {m : MethodId} {meth : Method} {c : Code} (h1 : s.methodNamed? y = some m) (h2 : s.vm.method? m = some meth) (h3 : meth.code = some c) (h4 : c.code = bytes)
    (h5 : (c.maxLocals == mx && c.exceptionTable.isEmpty && decide (c.maxStack ≤ mostOperands) && decide (meth.sig.returnType = rt) && !meth.locks && decide (parseMethodDescriptor y.desc = some meth.sig)) = true) : (Jvm.Cond.code y bytes mx rt).before a s = true := by
  simp only [Bool.and_eq_true, beq_iff_eq, Bool.not_eq_true', decide_eq_true_eq] at h5
  obtain ⟨⟨⟨⟨⟨g1, g2⟩, g3⟩, g4⟩, g5⟩, g6⟩ := h5
  simp [Cond.before, Cond.holds, Cond.value, h1, h2, h3, h4, g1, g2, g3, g4, g5, g6]
def isCode : Jvm.Cond → Bool
  | .code _ _ _ _ => true
  | _ => false
theorem all_split {L : List Jvm.Cond} {P : Jvm.Cond → Bool} (h1 : L.all (fun c => isCode c || P c) = true) (h2 : ∀ c ∈ L.filter isCode, P c = true) : L.all P = true := by
  refine List.all_eq_true.mpr fun c hc => ?_
  have h := List.all_eq_true.mp h1 c hc
  rcases Bool.eq_false_or_eq_true (isCode c) with hi | hi
  · exact h2 c (List.mem_filter.mpr ⟨hc, hi⟩)
  · simpa [hi] using h
set_option maxRecDepth 65536 in
theorem w_c0 : (Jvm.Cond.code x code maxLocals ret).before args0 about1 = true := code_word (m := ⟨1, 1⟩) (meth := k1m1) (c := k1c1) (by decide +kernel) rfl rfl rfl (by decide +kernel)
set_option maxRecDepth 65536 in
theorem w_c1 : (Jvm.Cond.code ({ cls := "com/example/calends/calends/jats/DatePlaceDisplaysTextPinLaw", name := "pick", desc := "(I)Lcom/example/calends/calends/jats/DatePlace;" } : Jvm.MethodName) method_3_code (1 : Nat) (Option.some (Jvm.ClassFile.FieldType.object "com/example/calends/calends/jats/DatePlace"))).before args0 about1 = true := code_word (m := ⟨1, 2⟩) (meth := k1m2) (c := k1c2) (by decide +kernel) rfl rfl rfl (by decide +kernel)
set_option maxRecDepth 65536 in
theorem w_c2 : (Jvm.Cond.code ({ cls := "com/example/calends/calends/jats/DatePlace", name := "displaysText", desc := "()Z" } : Jvm.MethodName) prog_39_method_8_code (1 : Nat) (Option.some Jvm.ClassFile.FieldType.boolean)).before args0 about1 = true := code_word (m := ⟨6, 0⟩) (meth := k6m0) (c := k6c0) (by decide +kernel) rfl rfl rfl (by decide +kernel)
def codes1 : List Jvm.Cond := [Jvm.Cond.code x code maxLocals ret, Jvm.Cond.code ({ cls := "com/example/calends/calends/jats/DatePlaceDisplaysTextPinLaw", name := "pick", desc := "(I)Lcom/example/calends/calends/jats/DatePlace;" } : Jvm.MethodName) method_3_code (1 : Nat) (Option.some (Jvm.ClassFile.FieldType.object "com/example/calends/calends/jats/DatePlace")), Jvm.Cond.code ({ cls := "com/example/calends/calends/jats/DatePlace", name := "displaysText", desc := "()Z" } : Jvm.MethodName) prog_39_method_8_code (1 : Nat) (Option.some Jvm.ClassFile.FieldType.boolean)]
set_option maxRecDepth 65536 in
theorem codes_eq : words1.filter isCode = codes1 := rfl
theorem w_codes : ∀ c ∈ words1.filter isCode, c.before args0 about1 = true := by
  rw [codes_eq]
  intro c hc
  simp only [codes1, List.mem_cons, List.not_mem_nil, or_false] at hc
  rcases hc with rfl | rfl | rfl
  · exact w_c0
  · exact w_c1
  · exact w_c2
set_option maxRecDepth 65536 in
theorem w_t1 : (words1.take 24).all (fun c => isCode c || c.before args0 about1) = true := by decide +kernel
set_option maxRecDepth 65536 in
theorem w_t2 : (words1.drop 24).all (fun c => isCode c || c.before args0 about1) = true := by decide +kernel
theorem w_tables : (allAtoms (Jvm.Cond.code x code maxLocals ret :: tables_1)).before args0 about1 = true := by
  rw [allAtoms_all]
  show words1.all (fun c => c.before args0 about1) = true
  refine all_split ?_ w_codes
  rw [← List.take_append_drop 24 words1, List.all_append, w_t1, w_t2]
  rfl
set_option maxRecDepth 65536 in
theorem w_case : (Jvm.Cond.and given_1 narrow_1).before args0 about1 = true := by decide +kernel
theorem w_applies : (headSpec (Jvm.Cond.code x code maxLocals ret :: tables_1) room_1).applies x e0.platform about1 = true :=
  (Spec.applies_iff w_frames).mpr ⟨w_running, w_runnable, w_alone, w_named, w_hears, w_ripe, w_room, w_tables⟩
theorem atStart : AtStart classFile x code maxLocals ret World_1 tables_1 room_1 Calls_1 rest_1 Pre_1 launch0 p0 e0 about1 theMethod args0 below0 :=
  ⟨lists_1, trivial, launch0.admits_env _ _ _, launch0.least_env, fairChoices_fair.cas, fairChoices_fair.clock, w_frames, w_args, w_heap, w_applies, trivial, trivial, w_case⟩
end start1
theorem witness_1 : WitnessClaimed_1 := ⟨start1.p0, start1.e0, start1.about1, start1.theMethod, start1.args0, start1.below0, start1.atStart⟩
end Jvm.Pilot.@@N@@
