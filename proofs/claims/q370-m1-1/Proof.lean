import JvmDerived
import JvmDerived.Pilot.@@N@@Statement
import JvmDerived.Pilot.@@N@@Code
set_option linter.unusedVariables false
set_option linter.unusedSimpArgs false
namespace Jvm.Pilot.@@N@@
open Jvm Jvm.ClassFile Sem Op Lib Jvm.Free Jvm.Stand Jvm.LawKit Jvm.RoadKit Bundle Jvm.Pilot.@@N@@.Jvm.D
section OwnHead
variable {p : Program} {l : Launch} {e : Env} {R : Room} {s : State} {m : MethodId} {args : Array Value} {below : List Frame} {meth : Method} {c : Code} {T : State} {locs : List Loc} {cells slots : Nat}
theorem own_retI (X : Stand p l e R s m args below meth c T locs cells slots) (hx : p.tables.exec = Jvm.exec) {pc : Nat} {Ls : Array Slot} {z : Int32} {rest : List Value} (hret : meth.sig.returnType = some .int) (hd : decode c.code pc = .ok (.ireturn, 1)) {fs : List Frame}
    (hl : ∀ (f : JFrame) (acts : List Action), f.method = m → f.locked = none → f.entered = [] → (doReturn e (T.setTop f) acts (some (.int z))).1 = T.setFrames fs) : Steps p.tables e below (T.setTop (mkF m pc Ls (.int z :: rest))) (T.setFrames fs) := by
  have hm' : T.vm.method? m = some meth := X.method'
  have hn : narrow .int (.int z) = .int z := rfl
  show Steps p.tables e below (T.setTop { method := m, pc := pc, locals := Ls, stack := _ :: rest, locked := none }) _
  jvm_step X.here [X.here.top, hx, hd, hm', hret, hn]
  first | (intro acts; rw [hl _ acts rfl rfl rfl]) | rw [hl _ _ rfl rfl rfl]
  exact Steps.refl _
/-- the run comes to an end that P speaks of -/
abbrev own_Fin (tb : Tables) (e : Env) (below : List Frame) (P : Outcome → State → Prop) (F : State) : Prop := ∃ s₂ o, Steps tb e below F s₂ ∧ s₂.status = .running ∧ Ended s₂ below o ∧ P o s₂
theorem own_go {tb : Tables} {P : Outcome → State → Prop} {F F' : State} (h : ∀ t, Steps tb e below F' t → Steps tb e below F t) (k : own_Fin tb e below P F') : own_Fin tb e below P F := by
  obtain ⟨s₂, o, h1, h2⟩ := k
  exact ⟨s₂, o, h _ h1, h2⟩
theorem own_eqI {args : Array Value} {first s : State} {o : Option Outcome} {idx : List Nat} {a : Term} {k : Int32} (h : (Cond.eq a (.int k)).value args first o s idx = some true) : a.eval args first o idx s = some (.int k) := by
  simp only [Cond.value, Term.eval] at h
  cases ht : a.eval args first o idx s with
  | none => simp [ht] at h
  | some x => cases x <;> simp [ht] at h ⊢; exact h
theorem own_eqJ {args : Array Value} {first s : State} {o : Option Outcome} {idx : List Nat} {a : Term} {k : Int64} (h : (Cond.eq a (.long k)).value args first o s idx = some true) : a.eval args first o idx s = some (.long k) := by
  simp only [Cond.value, Term.eval] at h
  cases ht : a.eval args first o idx s with
  | none => simp [ht] at h
  | some x => cases x <;> simp [ht] at h ⊢; exact h
theorem own_fld {args : Array Value} {Z : State} {t : Term} {a : Addr} {C n d : String} {v : Value} (ht : t.eval args Z none [] Z = some (.ref a)) (h : (Term.field t C n d).eval args Z none [] Z = some v) : Fld Z Z.heap a C n d v := Fld.start ((fld_at ht).symm.trans h)
theorem own_selp {s : State} {args : Array Value} {y : MethodName} {n : Nat} (wi : (Cond.instantiable y.cls n).before args s = true) (hpriv : s.PrivateAt y) (hinst : (Cond.instanceMethod y).before args s = true) (hy : y.cls ≠ "java/lang/invoke/MethodHandle" ∧ y.cls ≠ "java/lang/invoke/VarHandle") : (Cond.selects y.cls y y).before args s = true := by
  obtain ⟨c, k, h1, h2, -, h4, -⟩ := Cond.instantiable_spec wi
  exact selects_self_of_private h1 h2 (Bool.or_eq_false_iff.mp h4).1 hpriv hinst hy
theorem own_len {args : Array Value} {first s : State} {o : Option Outcome} {idx : List Nat} {t : Term} {a : Addr} {cl : Cell} {n : Int32} (h : (Term.length t).eval args first o idx s = some (.int n)) (ht : t.eval args first o idx s = some (.ref a)) (hc : s.arrayAt? a = some cl) : cl.slots.size < 2 ^ 31 ∧ cl.slots.size.toInt32 = n := by
  simp only [Term.eval, ht, hc, Option.bind_eq_bind, Option.bind_some] at h
  split at h
  · rename_i q
    exact ⟨q, by simpa using h⟩
  · simp at h
end OwnHead
theorem d1_0 : decode prog_8_method_4_code 0 = .ok (.iload_n 0, 1) := by decide +kernel
theorem d1_1 : decode prog_8_method_4_code 1 = .ok (.ifCond .ne 10, 3) := by decide +kernel
theorem d1_4 : decode prog_8_method_4_code 4 = .ok (.getstatic 7, 3) := by decide +kernel
theorem d1_7 : decode prog_8_method_4_code 7 = .ok (.astore_n 1, 1) := by decide +kernel
theorem d1_8 : decode prog_8_method_4_code 8 = .ok (.goto 7, 3) := by decide +kernel
theorem d1_11 : decode prog_8_method_4_code 11 = .ok (.getstatic 10, 3) := by decide +kernel
theorem d1_14 : decode prog_8_method_4_code 14 = .ok (.astore_n 1, 1) := by decide +kernel
theorem d1_15 : decode prog_8_method_4_code 15 = .ok (.aload_n 1, 1) := by decide +kernel
theorem d1_16 : decode prog_8_method_4_code 16 = .ok (.areturn, 1) := by decide +kernel
theorem d2_0 : decode prog_8_method_5_code 0 = .ok (.aload_n 0, 1) := by decide +kernel
theorem d2_1 : decode prog_8_method_5_code 1 = .ok (.getfield 35, 3) := by decide +kernel
theorem d2_4 : decode prog_8_method_5_code 4 = .ok (.ireturn, 1) := by decide +kernel
theorem d3_0 : decode prog_8_method_6_code 0 = .ok (.aload_n 0, 1) := by decide +kernel
theorem d3_1 : decode prog_8_method_6_code 1 = .ok (.getfield 39, 3) := by decide +kernel
theorem d3_4 : decode prog_8_method_6_code 4 = .ok (.ireturn, 1) := by decide +kernel
theorem own_pn0 : plainName "com/example/keen_trigger/keentrigger/core/RunStatus" = true := by first | (simp [plainName, overriddenIn]; done) | decide +kernel
theorem own_pn1 : plainName "com/example/keen_trigger/keentrigger/core/RunStatusOfExitCodePinLaw" = true := by first | (simp [plainName, overriddenIn]; done) | decide +kernel
theorem own_pd0 : parseMethodDescriptor "(I)Lcom/example/keen_trigger/keentrigger/core/RunStatus;" = some ⟨[.int], some (.object "com/example/keen_trigger/keentrigger/core/RunStatus")⟩ := by decide +kernel
theorem own_pd1 : parseMethodDescriptor "()Z" = some ⟨[], some .boolean⟩ := by decide +kernel
def Q_own_of (Z : State) (p1 : Int32) (wS : Addr) (wF : Addr) (h0 : Heap) (n0 : Nat) (v : Option Value) (h : Heap) (L : List Loc) : Prop := v = some (.ref (if p1 = (0 : Int32) then wS else wF)) ∧ Fr n0 L ∧ h = h0
theorem ef_own_of (m : MethodId) (x0 : Int32) : entryFrame m #[(.int x0)] 2 = mkF m 0 #[.val (.int x0), .unset] [] := by first | (simp [entryFrame, mkF, argsToLocals, Value.category]; done) | rfl
set_option maxRecDepth 65536 in
set_option maxHeartbeats 40000000 in
theorem own_of (l : Launch) (Z : State) (a0 : Array Value) (hw : ∀ d ∈ tables_1, d.before a0 Z = true) (ws : List Jvm.Cond) (p1 : Int32) (wS : Addr) (wF : Addr) (h0 : Heap) (n0 : Nat) (Z0 : n0 ≤ h0.size) (SS : Sta Z h0 "com/example/keen_trigger/keentrigger/core/RunStatus" "SUCCEEDED" "Lcom/example/keen_trigger/keentrigger/core/RunStatus;" (.ref wS)) (SF : Sta Z h0 "com/example/keen_trigger/keentrigger/core/RunStatus" "FAILED" "Lcom/example/keen_trigger/keentrigger/core/RunStatus;" (.ref wF)) :
    MetFree l (⟨"com/example/keen_trigger/keentrigger/core/RunStatus", "ofExitCode", "(I)Lcom/example/keen_trigger/keentrigger/core/RunStatus;"⟩ : MethodName) (head1 (Jvm.Cond.code (⟨"com/example/keen_trigger/keentrigger/core/RunStatus", "ofExitCode", "(I)Lcom/example/keen_trigger/keentrigger/core/RunStatus;"⟩ : MethodName) prog_8_method_4_code 2 (some (.object "com/example/keen_trigger/keentrigger/core/RunStatus")) :: ws) ({ frames := 0, cells := 0, slots := 0, locals := 0 } : Room)) (fun a U => a = #[(.int p1)] ∧ Z.Warmed39 U.vm ∧ U.heap = h0) (fun _ _ _ _ _ => True) (fun _ U o U' => ∃ v L, o = .returned v ∧ Q_own_of Z p1 wS wF h0 n0 v U'.heap L ∧ FrameEnd U o U' L ({ frames := 0, cells := 0, slots := 0, locals := 0 } : Room).cells ({ frames := 0, cells := 0, slots := 0, locals := 0 } : Room).slots) := by
  refine MetFree.of_bodySF (plainFor_of_name own_pn0) hisR ?_
  intro p e s m args below meth c s₁ Bd hml0 hP hK
  obtain ⟨rfl, hZ, hh⟩ := hP
  have hx := Bd.exec
  have hby := Bd.bytes
  have hml : c.maxLocals = 2 := hml0
  have hown : s.vm.findClass "com/example/keen_trigger/keentrigger/core/RunStatus" = some m.cls := findClass_of_methodNamed Bd.named
  have hnm := (name_of_methodNamed Bd.named Bd.method).1
  have X0 : Stand p l e ({ frames := 0, cells := 0, slots := 0, locals := 0 } : Room) s m #[(.int p1)] below meth c s₁ [] 0 0 := Stand.of_body Bd
  have e0 : s₁.heap = h0 := by rw [← hh, Bd.state]; rfl
  have N0 := Fr.nil n0
  show own_Fin p.tables e below _ (s₁.setTop (entryFrame m #[(.int p1)] 2))
  refine own_go (fun _ k => castTop (ef_own_of m p1) k) ?_
  show own_Fin p.tables e below _ (s₁.setTop (mkF m 0 #[.val (.int p1), .unset] []))
  refine own_go (fun _ k => XS.iloadN X0.here hx rfl (hb hby d1_0) rfl k) ?_
  show own_Fin p.tables e below _ (s₁.setTop (mkF m 1 #[.val (.int p1), .unset] [(.int p1)]))
  by_cases hc1 : p1 = (0 : Int32)
  · refine own_go (fun _ k => XS.ifNo X0.here hx rfl (hb hby d1_1) rfl ((if0 _ _).trans (teq hc1).2) k) ?_
    show own_Fin p.tables e below _ (s₁.setTop (mkF m 4 #[.val (.int p1), .unset] []))
    obtain ⟨T1, X1, e1, st1⟩ := getS2 X0 hx hZ hown (host := "") (Or.inl (hw _ (List.mem_of_getElem? (i := 4) rfl))) Via.refl e0 SS (g := (mkF m 4 #[.val (.int p1), .unset] [])) rfl (hb hby d1_4)
    refine own_go st1 ?_
    show own_Fin p.tables e below _ (T1.setTop (mkF m 7 #[.val (.int p1), .unset] [(.ref wS)]))
    refine own_go (fun _ k => XS.astoreN X1.here hx rfl (hb hby d1_7) rfl rfl (l' := #[.val (.int p1), .val (.ref wS)]) rfl k) ?_
    show own_Fin p.tables e below _ (T1.setTop (mkF m 8 #[.val (.int p1), .val (.ref wS)] []))
    refine own_go (fun _ k => XS.goto X1.here hx rfl (pc0 := 8) (pc' := 15) rfl (hb hby d1_8) (by decide) (by decide) k) ?_
    show own_Fin p.tables e below _ (T1.setTop (mkF m 15 #[.val (.int p1), .val (.ref wS)] []))
    refine own_go (fun _ k => XS.aloadN X1.here hx rfl (hb hby d1_15) rfl rfl k) ?_
    show own_Fin p.tables e below _ (T1.setTop (mkF m 16 #[.val (.int p1), .val (.ref wS)] [(.ref wS)]))
    obtain ⟨fs, hr, hrun, hended, hW, hsame⟩ := X1.leave (v := some (.ref wS)) (fun h => by rw [Bd.returns] at h; cases h)
    refine ⟨_, _, ?_, hrun, hended, _, _, rfl, ?_, ⟨_, rfl⟩, hW, hsame.mono (by decide) (by decide)⟩
    · jvm_step X1.here [X1.here.top, hx, (hb hby d1_16), X1.method', Bd.returns, Value.isRef, FieldType.isReference]
      first | (intro acts; rw [hr _ acts rfl rfl rfl]) | rw [hr _ _ rfl rfl rfl]
      exact Steps.refl _
    · show Q_own_of Z p1 wS wF h0 n0 _ T1.heap _
      rw [e1]
      exact ⟨(by simp [hc1]), N0, rfl⟩
  · refine own_go (fun _ k => XS.ifYes X0.here hx rfl (pc0 := 1) (pc' := 11) rfl (hb hby d1_1) rfl ((if0 _ _).trans (feq hc1).2) (by decide) (by decide) k) ?_
    show own_Fin p.tables e below _ (s₁.setTop (mkF m 11 #[.val (.int p1), .unset] []))
    obtain ⟨T2, X2, e2, st2⟩ := getS2 X0 hx hZ hown (host := "") (Or.inl (hw _ (List.mem_of_getElem? (i := 21) rfl))) Via.refl e0 SF (g := (mkF m 11 #[.val (.int p1), .unset] [])) rfl (hb hby d1_11)
    refine own_go st2 ?_
    show own_Fin p.tables e below _ (T2.setTop (mkF m 14 #[.val (.int p1), .unset] [(.ref wF)]))
    refine own_go (fun _ k => XS.astoreN X2.here hx rfl (hb hby d1_14) rfl rfl (l' := #[.val (.int p1), .val (.ref wF)]) rfl k) ?_
    show own_Fin p.tables e below _ (T2.setTop (mkF m 15 #[.val (.int p1), .val (.ref wF)] []))
    refine own_go (fun _ k => XS.aloadN X2.here hx rfl (hb hby d1_15) rfl rfl k) ?_
    show own_Fin p.tables e below _ (T2.setTop (mkF m 16 #[.val (.int p1), .val (.ref wF)] [(.ref wF)]))
    obtain ⟨fs, hr, hrun, hended, hW, hsame⟩ := X2.leave (v := some (.ref wF)) (fun h => by rw [Bd.returns] at h; cases h)
    refine ⟨_, _, ?_, hrun, hended, _, _, rfl, ?_, ⟨_, rfl⟩, hW, hsame.mono (by decide) (by decide)⟩
    · jvm_step X2.here [X2.here.top, hx, (hb hby d1_16), X2.method', Bd.returns, Value.isRef, FieldType.isReference]
      first | (intro acts; rw [hr _ acts rfl rfl rfl]) | rw [hr _ _ rfl rfl rfl]
      exact Steps.refl _
    · show Q_own_of Z p1 wS wF h0 n0 _ T2.heap _
      rw [e2]
      exact ⟨(by simp [hc1]), N0, rfl⟩
def Q_own_isReported (Z : State) (a1 : Addr) (r1 : Int32) (h0 : Heap) (n0 : Nat) (v : Option Value) (h : Heap) (L : List Loc) : Prop := v = some (.int r1) ∧ Fr n0 L ∧ h = h0
theorem ef_own_isReported (m : MethodId) (x0 : Addr) : entryFrame m #[(.ref x0)] 1 = mkF m 0 #[.val (.ref x0)] [] := by first | (simp [entryFrame, mkF, argsToLocals, Value.category]; done) | rfl
set_option maxRecDepth 65536 in
set_option maxHeartbeats 40000000 in
theorem own_isReported (l : Launch) (Z : State) (a0 : Array Value) (hw : ∀ d ∈ tables_1, d.before a0 Z = true) (ws : List Jvm.Cond) (a1 : Addr) (r1 : Int32) (h0 : Heap) (n0 : Nat) (Z0 : n0 ≤ h0.size) (F1 : Fld Z h0 a1 "com/example/keen_trigger/keentrigger/core/RunStatus" "reported" "Z" (.int r1)) (hnar : nar .boolean r1 = r1) :
    MetFree l (⟨"com/example/keen_trigger/keentrigger/core/RunStatus", "isReported", "()Z"⟩ : MethodName) (head1 (Jvm.Cond.code (⟨"com/example/keen_trigger/keentrigger/core/RunStatus", "isReported", "()Z"⟩ : MethodName) prog_8_method_5_code 1 (some .boolean) :: ws) ({ frames := 0, cells := 0, slots := 0, locals := 0 } : Room)) (fun a U => a = #[(.ref a1)] ∧ Z.Warmed39 U.vm ∧ U.heap = h0) (fun _ _ _ _ _ => True) (fun _ U o U' => ∃ v L, o = .returned v ∧ Q_own_isReported Z a1 r1 h0 n0 v U'.heap L ∧ FrameEnd U o U' L ({ frames := 0, cells := 0, slots := 0, locals := 0 } : Room).cells ({ frames := 0, cells := 0, slots := 0, locals := 0 } : Room).slots) := by
  refine MetFree.of_bodySF (plainFor_of_name own_pn0) hisR ?_
  intro p e s m args below meth c s₁ Bd hml0 hP hK
  obtain ⟨rfl, hZ, hh⟩ := hP
  have hx := Bd.exec
  have hby := Bd.bytes
  have hml : c.maxLocals = 1 := hml0
  have hown : s.vm.findClass "com/example/keen_trigger/keentrigger/core/RunStatus" = some m.cls := findClass_of_methodNamed Bd.named
  have hnm := (name_of_methodNamed Bd.named Bd.method).1
  have X0 : Stand p l e ({ frames := 0, cells := 0, slots := 0, locals := 0 } : Room) s m #[(.ref a1)] below meth c s₁ [] 0 0 := Stand.of_body Bd
  have e0 : s₁.heap = h0 := by rw [← hh, Bd.state]; rfl
  have N0 := Fr.nil n0
  show own_Fin p.tables e below _ (s₁.setTop (entryFrame m #[(.ref a1)] 1))
  refine own_go (fun _ k => castTop (ef_own_isReported m a1) k) ?_
  show own_Fin p.tables e below _ (s₁.setTop (mkF m 0 #[.val (.ref a1)] []))
  refine own_go (fun _ k => XS.aloadN X0.here hx rfl (hb hby d2_0) rfl rfl k) ?_
  show own_Fin p.tables e below _ (s₁.setTop (mkF m 1 #[.val (.ref a1)] [(.ref a1)]))
  obtain ⟨T1, X1, e1, st1⟩ := getF X0 hx hZ hown (host := "") (Or.inl (hw _ (List.mem_of_getElem? (i := 12) rfl))) Via.refl e0 F1 (g := (mkF m 1 #[.val (.ref a1)] [(.ref a1)])) rfl rfl (hb hby d2_1)
  refine own_go st1 ?_
  show own_Fin p.tables e below _ (T1.setTop (mkF m 4 #[.val (.ref a1)] [(.int r1)]))
  obtain ⟨fs, hr, hrun, hended, hW, hsame⟩ := X1.leave (v := some (.int (nar .boolean r1))) (fun h => by rw [Bd.returns] at h; cases h)
  refine ⟨_, _, ?_, hrun, hended, _, _, rfl, ?_, ⟨_, rfl⟩, hW, hsame.mono (by decide) (by decide)⟩
  · exact retN X1 hx (t := .boolean) Bd.returns (by simp) (hb hby d2_4) hr
  · show Q_own_isReported Z a1 r1 h0 n0 _ T1.heap _
    rw [e1]
    exact ⟨(by rw [hnar]), N0, rfl⟩
def Q_own_isRetried (Z : State) (a1 : Addr) (r1 : Int32) (h0 : Heap) (n0 : Nat) (v : Option Value) (h : Heap) (L : List Loc) : Prop := v = some (.int r1) ∧ Fr n0 L ∧ h = h0
theorem ef_own_isRetried (m : MethodId) (x0 : Addr) : entryFrame m #[(.ref x0)] 1 = mkF m 0 #[.val (.ref x0)] [] := by first | (simp [entryFrame, mkF, argsToLocals, Value.category]; done) | rfl
set_option maxRecDepth 65536 in
set_option maxHeartbeats 40000000 in
theorem own_isRetried (l : Launch) (Z : State) (a0 : Array Value) (hw : ∀ d ∈ tables_1, d.before a0 Z = true) (ws : List Jvm.Cond) (a1 : Addr) (r1 : Int32) (h0 : Heap) (n0 : Nat) (Z0 : n0 ≤ h0.size) (F1 : Fld Z h0 a1 "com/example/keen_trigger/keentrigger/core/RunStatus" "retried" "Z" (.int r1)) (hnar : nar .boolean r1 = r1) :
    MetFree l (⟨"com/example/keen_trigger/keentrigger/core/RunStatus", "isRetried", "()Z"⟩ : MethodName) (head1 (Jvm.Cond.code (⟨"com/example/keen_trigger/keentrigger/core/RunStatus", "isRetried", "()Z"⟩ : MethodName) prog_8_method_6_code 1 (some .boolean) :: ws) ({ frames := 0, cells := 0, slots := 0, locals := 0 } : Room)) (fun a U => a = #[(.ref a1)] ∧ Z.Warmed39 U.vm ∧ U.heap = h0) (fun _ _ _ _ _ => True) (fun _ U o U' => ∃ v L, o = .returned v ∧ Q_own_isRetried Z a1 r1 h0 n0 v U'.heap L ∧ FrameEnd U o U' L ({ frames := 0, cells := 0, slots := 0, locals := 0 } : Room).cells ({ frames := 0, cells := 0, slots := 0, locals := 0 } : Room).slots) := by
  refine MetFree.of_bodySF (plainFor_of_name own_pn0) hisR ?_
  intro p e s m args below meth c s₁ Bd hml0 hP hK
  obtain ⟨rfl, hZ, hh⟩ := hP
  have hx := Bd.exec
  have hby := Bd.bytes
  have hml : c.maxLocals = 1 := hml0
  have hown : s.vm.findClass "com/example/keen_trigger/keentrigger/core/RunStatus" = some m.cls := findClass_of_methodNamed Bd.named
  have hnm := (name_of_methodNamed Bd.named Bd.method).1
  have X0 : Stand p l e ({ frames := 0, cells := 0, slots := 0, locals := 0 } : Room) s m #[(.ref a1)] below meth c s₁ [] 0 0 := Stand.of_body Bd
  have e0 : s₁.heap = h0 := by rw [← hh, Bd.state]; rfl
  have N0 := Fr.nil n0
  show own_Fin p.tables e below _ (s₁.setTop (entryFrame m #[(.ref a1)] 1))
  refine own_go (fun _ k => castTop (ef_own_isRetried m a1) k) ?_
  show own_Fin p.tables e below _ (s₁.setTop (mkF m 0 #[.val (.ref a1)] []))
  refine own_go (fun _ k => XS.aloadN X0.here hx rfl (hb hby d3_0) rfl rfl k) ?_
  show own_Fin p.tables e below _ (s₁.setTop (mkF m 1 #[.val (.ref a1)] [(.ref a1)]))
  obtain ⟨T1, X1, e1, st1⟩ := getF X0 hx hZ hown (host := "") (Or.inl (hw _ (List.mem_of_getElem? (i := 19) rfl))) Via.refl e0 F1 (g := (mkF m 1 #[.val (.ref a1)] [(.ref a1)])) rfl rfl (hb hby d3_1)
  refine own_go st1 ?_
  show own_Fin p.tables e below _ (T1.setTop (mkF m 4 #[.val (.ref a1)] [(.int r1)]))
  obtain ⟨fs, hr, hrun, hended, hW, hsame⟩ := X1.leave (v := some (.int (nar .boolean r1))) (fun h => by rw [Bd.returns] at h; cases h)
  refine ⟨_, _, ?_, hrun, hended, _, _, rfl, ?_, ⟨_, rfl⟩, hW, hsame.mono (by decide) (by decide)⟩
  · exact retN X1 hx (t := .boolean) Bd.returns (by simp) (hb hby d3_4) hr
  · show Q_own_isRetried Z a1 r1 h0 n0 _ T1.heap _
    rw [e1]
    exact ⟨(by rw [hnar]), N0, rfl⟩
def Q_own_law (Z : State) (p1 : Int32) (wS : Addr) (wF : Addr) (h0 : Heap) (n0 : Nat) (v : Option Value) (h : Heap) (L : List Loc) : Prop := v = some (.int (1 : Int32)) ∧ Fr n0 L
theorem ef_own_law (m : MethodId) (x0 : Int32) : entryFrame m #[(.int x0)] maxLocals = mkF m 0 #[.val (.int x0), .unset, .unset] [] := by first | (simp [entryFrame, mkF, argsToLocals, Value.category, maxLocals]; done) | rfl
set_option maxRecDepth 65536 in
set_option maxHeartbeats 40000000 in
theorem own_law (l : Launch) (Z : State) (a0 : Array Value) (hw : ∀ d ∈ tables_1, d.before a0 Z = true) (ws : List Jvm.Cond) (p1 : Int32) (wS : Addr) (wF : Addr) (h0 : Heap) (n0 : Nat) (Z0 : n0 ≤ h0.size) (SS : Sta Z h0 "com/example/keen_trigger/keentrigger/core/RunStatus" "SUCCEEDED" "Lcom/example/keen_trigger/keentrigger/core/RunStatus;" (.ref wS)) (SF : Sta Z h0 "com/example/keen_trigger/keentrigger/core/RunStatus" "FAILED" "Lcom/example/keen_trigger/keentrigger/core/RunStatus;" (.ref wF)) (EwS : Exa Z h0 wS "com/example/keen_trigger/keentrigger/core/RunStatus") (AwS : Fld Z h0 wS "com/example/keen_trigger/keentrigger/core/RunStatus" "reported" "Z" (.int (1 : Int32))) (BwS : Fld Z h0 wS "com/example/keen_trigger/keentrigger/core/RunStatus" "retried" "Z" (.int (0 : Int32))) (EwF : Exa Z h0 wF "com/example/keen_trigger/keentrigger/core/RunStatus") (AwF : Fld Z h0 wF "com/example/keen_trigger/keentrigger/core/RunStatus" "reported" "Z" (.int (1 : Int32))) (BwF : Fld Z h0 wF "com/example/keen_trigger/keentrigger/core/RunStatus" "retried" "Z" (.int (1 : Int32))) :
    MetFree l x (head1 (Jvm.Cond.code x code maxLocals ret :: ws) room_1) (fun a U => a = #[(.int p1)] ∧ Z.Warmed39 U.vm ∧ U.heap = h0) (fun _ _ _ _ _ => True) (fun _ U o U' => ∃ v L, o = .returned v ∧ Q_own_law Z p1 wS wF h0 n0 v U'.heap L ∧ FrameEnd U o U' L room_1.cells room_1.slots) := by
  refine MetFree.of_bodySF (plainFor_of_name own_pn1) hisR ?_
  intro p e s m args below meth c s₁ Bd hml0 hP hK
  obtain ⟨rfl, hZ, hh⟩ := hP
  have hx := Bd.exec
  have hby := Bd.bytes
  have hml : c.maxLocals = 3 := hml0
  have hown : s.vm.findClass "com/example/keen_trigger/keentrigger/core/RunStatusOfExitCodePinLaw" = some m.cls := findClass_of_methodNamed Bd.named
  have hnm := (name_of_methodNamed Bd.named Bd.method).1
  have X0 : Stand p l e room_1 s m #[(.int p1)] below meth c s₁ [] 0 0 := Stand.of_body Bd
  have e0 : s₁.heap = h0 := by rw [← hh, Bd.state]; rfl
  have N0 := Fr.nil n0
  show own_Fin p.tables e below _ (s₁.setTop (entryFrame m #[(.int p1)] maxLocals))
  refine own_go (fun _ k => castTop (ef_own_law m p1) k) ?_
  show own_Fin p.tables e below _ (s₁.setTop (mkF m 0 #[.val (.int p1), .unset, .unset] []))
  by_cases hc : p1 = (0 : Int32)
  · refine own_go (fun _ k => XS.iloadN X0.here hx rfl (hb hby at_0) rfl k) ?_
    show own_Fin p.tables e below _ (s₁.setTop (mkF m 1 #[.val (.int p1), .unset, .unset] [(.int p1)]))
    obtain ⟨_, _, ⟨T1, L1, k1, n1⟩, -, X1, ⟨Lc1, hQ1, l1, y1, z1⟩, st1⟩ := Jvm.LawKit.callS X0 hx (y := (⟨"com/example/keen_trigger/keentrigger/core/RunStatus", "ofExitCode", "(I)Lcom/example/keen_trigger/keentrigger/core/RunStatus;"⟩ : MethodName)) hown (mvT hZ (hw _ (List.mem_of_getElem? (i := 0) rfl))) (mvT hZ (hw _ (List.mem_of_getElem? (i := 1) rfl))) (mvT hZ (hw _ (List.mem_of_getElem? (i := 2) rfl))) (mvT hZ (hw _ (List.mem_of_getElem? (i := 3) rfl))) (by decide) (backOf (W := 0) (own_of l Z a0 hw [] p1 wS wF h0 n0 Z0 SS SF) hZ (hw _ (List.mem_of_getElem? (i := 3) rfl)) (hw _ (List.mem_of_getElem? (i := 2) rfl)) (by decide) (by decide)) (g := (mkF m 1 #[.val (.int p1), .unset, .unset] [(.int p1)])) rfl (by rw [hml]; rfl) (argsL := [(.int p1)]) (rest := []) (lenOf own_pd0 rfl) rfl (by show 2 * 0 + _ ≤ _; exact Nat.le_of_eq rfl) (hb hby at_1) (fun _ _ => ⟨rfl, e0, (by decide : 0 + 0 ≤ _), (by decide : 0 + 0 ≤ _)⟩)
    dsimp only [Pt.U, Pt.locs, Pt.cells, Pt.slots] at X1 l1 y1 z1 st1 hQ1
    subst l1 y1 z1
    obtain ⟨hv1, N1q, eh1⟩ := hQ1
    obtain rfl := hv1.trans (by simp [hc] : (some (.ref (if p1 = (0 : Int32) then wS else wF)) : Option Value) = some (.ref wS))
    have N1 := Fr.app N0 N1q
    refine own_go st1 ?_
    show own_Fin p.tables e below _ (T1.setTop (mkF m 4 #[.val (.int p1), .unset, .unset] [(.ref wS)]))
    refine own_go (fun _ k => XS.astoreN X1.here hx rfl (hb hby at_4) rfl rfl (l' := #[.val (.int p1), .val (.ref wS), .unset]) rfl k) ?_
    show own_Fin p.tables e below _ (T1.setTop (mkF m 5 #[.val (.int p1), .val (.ref wS), .unset] []))
    refine own_go (fun _ k => XS.aloadN X1.here hx rfl (hb hby at_5) rfl rfl k) ?_
    show own_Fin p.tables e below _ (T1.setTop (mkF m 6 #[.val (.int p1), .val (.ref wS), .unset] [(.ref wS)]))
    refine own_go (fun _ k => XS.ifnonnullYes X1.here hx rfl (pc0 := 6) (pc' := 11) rfl (hb hby at_6) rfl (by decide) (by decide) k) ?_
    show own_Fin p.tables e below _ (T1.setTop (mkF m 11 #[.val (.int p1), .val (.ref wS), .unset] []))
    refine own_go (fun _ k => XS.iloadN X1.here hx rfl (hb hby at_11) rfl k) ?_
    show own_Fin p.tables e below _ (T1.setTop (mkF m 12 #[.val (.int p1), .val (.ref wS), .unset] [(.int p1)]))
    refine own_go (fun _ k => XS.ifNo X1.here hx rfl (hb hby at_12) rfl ((if0 _ _).trans (teq hc).2) k) ?_
    show own_Fin p.tables e below _ (T1.setTop (mkF m 15 #[.val (.int p1), .val (.ref wS), .unset] []))
    refine own_go (fun _ k => XS.aloadN X1.here hx rfl (hb hby at_15) rfl rfl k) ?_
    show own_Fin p.tables e below _ (T1.setTop (mkF m 16 #[.val (.int p1), .val (.ref wS), .unset] [(.ref wS)]))
    obtain ⟨T2, X2, e2, st2⟩ := getS2 X1 hx hZ hown (host := "") (Or.inl (hw _ (List.mem_of_getElem? (i := 6) rfl))) Via.refl eh1 SS (g := (mkF m 16 #[.val (.int p1), .val (.ref wS), .unset] [(.ref wS)])) rfl (hb hby at_16)
    refine own_go st2 ?_
    show own_Fin p.tables e below _ (T2.setTop (mkF m 19 #[.val (.int p1), .val (.ref wS), .unset] [(.ref wS), (.ref wS)]))
    refine own_go (fun _ k => Jvm.RoadKit.acmp (g := (mkF m 19 #[.val (.int p1), .val (.ref wS), .unset] [(.ref wS), (.ref wS)])) X2 hx rfl rfl rfl (pc0 := 19) (pc' := 22) (same := true) rfl (hb hby at_19) rfl (decide_eq_true rfl) (by decide) (by decide) k) ?_
    show own_Fin p.tables e below _ (T2.setTop (mkF m 22 #[.val (.int p1), .val (.ref wS), .unset] []))
    refine own_go (fun _ k => XS.iconst X2.here hx rfl (hb hby at_22) k) ?_
    show own_Fin p.tables e below _ (T2.setTop (mkF m 23 #[.val (.int p1), .val (.ref wS), .unset] [(.int (1 : Int32))]))
    refine own_go (fun _ k => XS.goto X2.here hx rfl (pc0 := 23) (pc' := 27) rfl (hb hby at_23) (by decide) (by decide) k) ?_
    show own_Fin p.tables e below _ (T2.setTop (mkF m 27 #[.val (.int p1), .val (.ref wS), .unset] [(.int (1 : Int32))]))
    refine own_go (fun _ k => XS.istoreN X2.here hx rfl (hb hby at_27) rfl (l' := #[.val (.int p1), .val (.ref wS), .val (.int (1 : Int32))]) rfl k) ?_
    show own_Fin p.tables e below _ (T2.setTop (mkF m 28 #[.val (.int p1), .val (.ref wS), .val (.int (1 : Int32))] []))
    refine own_go (fun _ k => XS.goto X2.here hx rfl (pc0 := 28) (pc' := 44) rfl (hb hby at_28) (by decide) (by decide) k) ?_
    show own_Fin p.tables e below _ (T2.setTop (mkF m 44 #[.val (.int p1), .val (.ref wS), .val (.int (1 : Int32))] []))
    refine own_go (fun _ k => XS.iloadN X2.here hx rfl (hb hby at_44) rfl k) ?_
    show own_Fin p.tables e below _ (T2.setTop (mkF m 45 #[.val (.int p1), .val (.ref wS), .val (.int (1 : Int32))] [(.int (1 : Int32))]))
    refine own_go (fun _ k => XS.ifNo X2.here hx rfl (hb hby at_45) rfl ((if0 _ _).trans (feq (by decide : ¬ ((1 : Int32) = (0 : Int32)))).1) k) ?_
    show own_Fin p.tables e below _ (T2.setTop (mkF m 48 #[.val (.int p1), .val (.ref wS), .val (.int (1 : Int32))] []))
    refine own_go (fun _ k => XS.aloadN X2.here hx rfl (hb hby at_48) rfl rfl k) ?_
    show own_Fin p.tables e below _ (T2.setTop (mkF m 49 #[.val (.int p1), .val (.ref wS), .val (.int (1 : Int32))] [(.ref wS)]))
    obtain ⟨cq3, kq3, q3a, q3b, q3c⟩ := isOf hZ e2 EwS
    obtain ⟨_, _, ⟨T3, L3, k3, n3⟩, -, X3, ⟨Lc3, hQ3, l3, y3, z3⟩, st3⟩ := X2.virtualBack hx (y := (⟨"com/example/keen_trigger/keentrigger/core/RunStatus", "isReported", "()Z"⟩ : MethodName)) (z := (⟨"com/example/keen_trigger/keentrigger/core/RunStatus", "isReported", "()Z"⟩ : MethodName)) hown (mvT hZ (hw _ (List.mem_of_getElem? (i := 7) rfl))) (mvT hZ (hw _ (List.mem_of_getElem? (i := 8) rfl))) (notFace_of_selects (args := #[]) (mvT hZ (hw _ (List.mem_of_getElem? (i := 10) rfl)))) (mvT hZ (hw _ (List.mem_of_getElem? (i := 10) rfl))) (mvT hZ (hw _ (List.mem_of_getElem? (i := 9) rfl))) (by decide) (backOf (W := 0) (own_isReported l Z a0 hw [] wS (1 : Int32) h0 n0 Z0 AwS (by first | assumption | decide | omega)) hZ (hw _ (List.mem_of_getElem? (i := 11) rfl)) (hw _ (List.mem_of_getElem? (i := 2) rfl)) (by decide) (by decide)) q3a q3c (g := (mkF m 49 #[.val (.int p1), .val (.ref wS), .val (.int (1 : Int32))] [(.ref wS)])) rfl (by rw [hml]; rfl) (Steps.refl _) (argsL := []) (rest := []) (lenOf own_pd1 rfl) rfl (by show 2 * 0 + _ ≤ _; exact Nat.le_of_eq rfl) (hb hby at_49) (fun _ _ => ⟨rfl, e2, (by decide : 0 + 0 ≤ _), (by decide : 0 + 0 ≤ _)⟩)
    dsimp only [Pt.U, Pt.locs, Pt.cells, Pt.slots] at X3 l3 y3 z3 st3 hQ3
    subst l3 y3 z3
    obtain ⟨hv3, N3q, eh3⟩ := hQ3
    subst hv3
    have N3 := Fr.app N1 N3q
    refine own_go (fun _ k => st3.trans k) ?_
    show own_Fin p.tables e below _ (T3.setTop (mkF m 52 #[.val (.int p1), .val (.ref wS), .val (.int (1 : Int32))] [(.int (1 : Int32))]))
    refine own_go (fun _ k => XS.ifNo X3.here hx rfl (hb hby at_52) rfl ((if0 _ _).trans (feq (by decide : ¬ ((1 : Int32) = (0 : Int32)))).1) k) ?_
    show own_Fin p.tables e below _ (T3.setTop (mkF m 55 #[.val (.int p1), .val (.ref wS), .val (.int (1 : Int32))] []))
    refine own_go (fun _ k => XS.aloadN X3.here hx rfl (hb hby at_55) rfl rfl k) ?_
    show own_Fin p.tables e below _ (T3.setTop (mkF m 56 #[.val (.int p1), .val (.ref wS), .val (.int (1 : Int32))] [(.ref wS)]))
    obtain ⟨cq4, kq4, q4a, q4b, q4c⟩ := isOf hZ eh3 EwS
    obtain ⟨_, _, ⟨T4, L4, k4, n4⟩, -, X4, ⟨Lc4, hQ4, l4, y4, z4⟩, st4⟩ := X3.virtualBack hx (y := (⟨"com/example/keen_trigger/keentrigger/core/RunStatus", "isRetried", "()Z"⟩ : MethodName)) (z := (⟨"com/example/keen_trigger/keentrigger/core/RunStatus", "isRetried", "()Z"⟩ : MethodName)) hown (mvT hZ (hw _ (List.mem_of_getElem? (i := 14) rfl))) (mvT hZ (hw _ (List.mem_of_getElem? (i := 15) rfl))) (notFace_of_selects (args := #[]) (mvT hZ (hw _ (List.mem_of_getElem? (i := 17) rfl)))) (mvT hZ (hw _ (List.mem_of_getElem? (i := 17) rfl))) (mvT hZ (hw _ (List.mem_of_getElem? (i := 16) rfl))) (by decide) (backOf (W := 0) (own_isRetried l Z a0 hw [] wS (0 : Int32) h0 n0 Z0 BwS (by first | assumption | decide | omega)) hZ (hw _ (List.mem_of_getElem? (i := 18) rfl)) (hw _ (List.mem_of_getElem? (i := 2) rfl)) (by decide) (by decide)) q4a q4c (g := (mkF m 56 #[.val (.int p1), .val (.ref wS), .val (.int (1 : Int32))] [(.ref wS)])) rfl (by rw [hml]; rfl) (Steps.refl _) (argsL := []) (rest := []) (lenOf own_pd1 rfl) rfl (by show 2 * 0 + _ ≤ _; exact Nat.le_of_eq rfl) (hb hby at_56) (fun _ _ => ⟨rfl, eh3, (by decide : 0 + 0 ≤ _), (by decide : 0 + 0 ≤ _)⟩)
    dsimp only [Pt.U, Pt.locs, Pt.cells, Pt.slots] at X4 l4 y4 z4 st4 hQ4
    subst l4 y4 z4
    obtain ⟨hv4, N4q, eh4⟩ := hQ4
    subst hv4
    have N4 := Fr.app N3 N4q
    refine own_go (fun _ k => st4.trans k) ?_
    show own_Fin p.tables e below _ (T4.setTop (mkF m 59 #[.val (.int p1), .val (.ref wS), .val (.int (1 : Int32))] [(.int (0 : Int32))]))
    refine own_go (fun _ k => XS.iloadN X4.here hx rfl (hb hby at_59) rfl k) ?_
    show own_Fin p.tables e below _ (T4.setTop (mkF m 60 #[.val (.int p1), .val (.ref wS), .val (.int (1 : Int32))] [(.int p1), (.int (0 : Int32))]))
    refine own_go (fun _ k => XS.ifYes X4.here hx rfl (pc0 := 60) (pc' := 67) rfl (hb hby at_60) rfl ((if0 _ _).trans (teq hc).1) (by decide) (by decide) k) ?_
    show own_Fin p.tables e below _ (T4.setTop (mkF m 67 #[.val (.int p1), .val (.ref wS), .val (.int (1 : Int32))] [(.int (0 : Int32))]))
    refine own_go (fun _ k => XS.iconst X4.here hx rfl (hb hby at_67) k) ?_
    show own_Fin p.tables e below _ (T4.setTop (mkF m 68 #[.val (.int p1), .val (.ref wS), .val (.int (1 : Int32))] [(.int (0 : Int32)), (.int (0 : Int32))]))
    refine own_go (fun _ k => XS.icmpNo X4.here hx rfl (hb hby at_68) rfl (teq (by decide : ((0 : Int32) = (0 : Int32)))).2 k) ?_
    show own_Fin p.tables e below _ (T4.setTop (mkF m 71 #[.val (.int p1), .val (.ref wS), .val (.int (1 : Int32))] []))
    refine own_go (fun _ k => XS.iconst X4.here hx rfl (hb hby at_71) k) ?_
    show own_Fin p.tables e below _ (T4.setTop (mkF m 72 #[.val (.int p1), .val (.ref wS), .val (.int (1 : Int32))] [(.int (1 : Int32))]))
    refine own_go (fun _ k => XS.goto X4.here hx rfl (pc0 := 72) (pc' := 76) rfl (hb hby at_72) (by decide) (by decide) k) ?_
    show own_Fin p.tables e below _ (T4.setTop (mkF m 76 #[.val (.int p1), .val (.ref wS), .val (.int (1 : Int32))] [(.int (1 : Int32))]))
    obtain ⟨fs, hr, hrun, hended, hW, hsame⟩ := X4.leave (v := some (.int (1 : Int32))) (fun h => by rw [Bd.returns] at h; cases h)
    refine ⟨_, _, ?_, hrun, hended, _, _, rfl, ?_, ⟨_, rfl⟩, hW, hsame.mono (by decide) (by decide)⟩
    · exact retN X4 hx (t := .boolean) Bd.returns (by simp) (hb hby at_76) hr
    · show Q_own_law Z p1 wS wF h0 n0 _ T4.heap _
      rw [eh4]
      exact ⟨rfl, N4⟩
  · refine own_go (fun _ k => XS.iloadN X0.here hx rfl (hb hby at_0) rfl k) ?_
    show own_Fin p.tables e below _ (s₁.setTop (mkF m 1 #[.val (.int p1), .unset, .unset] [(.int p1)]))
    obtain ⟨_, _, ⟨T5, L5, k5, n5⟩, -, X5, ⟨Lc5, hQ5, l5, y5, z5⟩, st5⟩ := Jvm.LawKit.callS X0 hx (y := (⟨"com/example/keen_trigger/keentrigger/core/RunStatus", "ofExitCode", "(I)Lcom/example/keen_trigger/keentrigger/core/RunStatus;"⟩ : MethodName)) hown (mvT hZ (hw _ (List.mem_of_getElem? (i := 0) rfl))) (mvT hZ (hw _ (List.mem_of_getElem? (i := 1) rfl))) (mvT hZ (hw _ (List.mem_of_getElem? (i := 2) rfl))) (mvT hZ (hw _ (List.mem_of_getElem? (i := 3) rfl))) (by decide) (backOf (W := 0) (own_of l Z a0 hw [] p1 wS wF h0 n0 Z0 SS SF) hZ (hw _ (List.mem_of_getElem? (i := 3) rfl)) (hw _ (List.mem_of_getElem? (i := 2) rfl)) (by decide) (by decide)) (g := (mkF m 1 #[.val (.int p1), .unset, .unset] [(.int p1)])) rfl (by rw [hml]; rfl) (argsL := [(.int p1)]) (rest := []) (lenOf own_pd0 rfl) rfl (by show 2 * 0 + _ ≤ _; exact Nat.le_of_eq rfl) (hb hby at_1) (fun _ _ => ⟨rfl, e0, (by decide : 0 + 0 ≤ _), (by decide : 0 + 0 ≤ _)⟩)
    dsimp only [Pt.U, Pt.locs, Pt.cells, Pt.slots] at X5 l5 y5 z5 st5 hQ5
    subst l5 y5 z5
    obtain ⟨hv5, N5q, eh5⟩ := hQ5
    obtain rfl := hv5.trans (by simp [hc] : (some (.ref (if p1 = (0 : Int32) then wS else wF)) : Option Value) = some (.ref wF))
    have N5 := Fr.app N0 N5q
    refine own_go st5 ?_
    show own_Fin p.tables e below _ (T5.setTop (mkF m 4 #[.val (.int p1), .unset, .unset] [(.ref wF)]))
    refine own_go (fun _ k => XS.astoreN X5.here hx rfl (hb hby at_4) rfl rfl (l' := #[.val (.int p1), .val (.ref wF), .unset]) rfl k) ?_
    show own_Fin p.tables e below _ (T5.setTop (mkF m 5 #[.val (.int p1), .val (.ref wF), .unset] []))
    refine own_go (fun _ k => XS.aloadN X5.here hx rfl (hb hby at_5) rfl rfl k) ?_
    show own_Fin p.tables e below _ (T5.setTop (mkF m 6 #[.val (.int p1), .val (.ref wF), .unset] [(.ref wF)]))
    refine own_go (fun _ k => XS.ifnonnullYes X5.here hx rfl (pc0 := 6) (pc' := 11) rfl (hb hby at_6) rfl (by decide) (by decide) k) ?_
    show own_Fin p.tables e below _ (T5.setTop (mkF m 11 #[.val (.int p1), .val (.ref wF), .unset] []))
    refine own_go (fun _ k => XS.iloadN X5.here hx rfl (hb hby at_11) rfl k) ?_
    show own_Fin p.tables e below _ (T5.setTop (mkF m 12 #[.val (.int p1), .val (.ref wF), .unset] [(.int p1)]))
    refine own_go (fun _ k => XS.ifYes X5.here hx rfl (pc0 := 12) (pc' := 31) rfl (hb hby at_12) rfl ((if0 _ _).trans (feq hc).2) (by decide) (by decide) k) ?_
    show own_Fin p.tables e below _ (T5.setTop (mkF m 31 #[.val (.int p1), .val (.ref wF), .unset] []))
    refine own_go (fun _ k => XS.aloadN X5.here hx rfl (hb hby at_31) rfl rfl k) ?_
    show own_Fin p.tables e below _ (T5.setTop (mkF m 32 #[.val (.int p1), .val (.ref wF), .unset] [(.ref wF)]))
    obtain ⟨T6, X6, e6, st6⟩ := getS2 X5 hx hZ hown (host := "") (Or.inl (hw _ (List.mem_of_getElem? (i := 23) rfl))) Via.refl eh5 SF (g := (mkF m 32 #[.val (.int p1), .val (.ref wF), .unset] [(.ref wF)])) rfl (hb hby at_32)
    refine own_go st6 ?_
    show own_Fin p.tables e below _ (T6.setTop (mkF m 35 #[.val (.int p1), .val (.ref wF), .unset] [(.ref wF), (.ref wF)]))
    refine own_go (fun _ k => Jvm.RoadKit.acmp (g := (mkF m 35 #[.val (.int p1), .val (.ref wF), .unset] [(.ref wF), (.ref wF)])) X6 hx rfl rfl rfl (pc0 := 35) (pc' := 38) (same := true) rfl (hb hby at_35) rfl (decide_eq_true rfl) (by decide) (by decide) k) ?_
    show own_Fin p.tables e below _ (T6.setTop (mkF m 38 #[.val (.int p1), .val (.ref wF), .unset] []))
    refine own_go (fun _ k => XS.iconst X6.here hx rfl (hb hby at_38) k) ?_
    show own_Fin p.tables e below _ (T6.setTop (mkF m 39 #[.val (.int p1), .val (.ref wF), .unset] [(.int (1 : Int32))]))
    refine own_go (fun _ k => XS.goto X6.here hx rfl (pc0 := 39) (pc' := 43) rfl (hb hby at_39) (by decide) (by decide) k) ?_
    show own_Fin p.tables e below _ (T6.setTop (mkF m 43 #[.val (.int p1), .val (.ref wF), .unset] [(.int (1 : Int32))]))
    refine own_go (fun _ k => XS.istoreN X6.here hx rfl (hb hby at_43) rfl (l' := #[.val (.int p1), .val (.ref wF), .val (.int (1 : Int32))]) rfl k) ?_
    show own_Fin p.tables e below _ (T6.setTop (mkF m 44 #[.val (.int p1), .val (.ref wF), .val (.int (1 : Int32))] []))
    refine own_go (fun _ k => XS.iloadN X6.here hx rfl (hb hby at_44) rfl k) ?_
    show own_Fin p.tables e below _ (T6.setTop (mkF m 45 #[.val (.int p1), .val (.ref wF), .val (.int (1 : Int32))] [(.int (1 : Int32))]))
    refine own_go (fun _ k => XS.ifNo X6.here hx rfl (hb hby at_45) rfl ((if0 _ _).trans (feq (by decide : ¬ ((1 : Int32) = (0 : Int32)))).1) k) ?_
    show own_Fin p.tables e below _ (T6.setTop (mkF m 48 #[.val (.int p1), .val (.ref wF), .val (.int (1 : Int32))] []))
    refine own_go (fun _ k => XS.aloadN X6.here hx rfl (hb hby at_48) rfl rfl k) ?_
    show own_Fin p.tables e below _ (T6.setTop (mkF m 49 #[.val (.int p1), .val (.ref wF), .val (.int (1 : Int32))] [(.ref wF)]))
    obtain ⟨cq7, kq7, q7a, q7b, q7c⟩ := isOf hZ e6 EwF
    obtain ⟨_, _, ⟨T7, L7, k7, n7⟩, -, X7, ⟨Lc7, hQ7, l7, y7, z7⟩, st7⟩ := X6.virtualBack hx (y := (⟨"com/example/keen_trigger/keentrigger/core/RunStatus", "isReported", "()Z"⟩ : MethodName)) (z := (⟨"com/example/keen_trigger/keentrigger/core/RunStatus", "isReported", "()Z"⟩ : MethodName)) hown (mvT hZ (hw _ (List.mem_of_getElem? (i := 7) rfl))) (mvT hZ (hw _ (List.mem_of_getElem? (i := 8) rfl))) (notFace_of_selects (args := #[]) (mvT hZ (hw _ (List.mem_of_getElem? (i := 10) rfl)))) (mvT hZ (hw _ (List.mem_of_getElem? (i := 10) rfl))) (mvT hZ (hw _ (List.mem_of_getElem? (i := 9) rfl))) (by decide) (backOf (W := 0) (own_isReported l Z a0 hw [] wF (1 : Int32) h0 n0 Z0 AwF (by first | assumption | decide | omega)) hZ (hw _ (List.mem_of_getElem? (i := 11) rfl)) (hw _ (List.mem_of_getElem? (i := 2) rfl)) (by decide) (by decide)) q7a q7c (g := (mkF m 49 #[.val (.int p1), .val (.ref wF), .val (.int (1 : Int32))] [(.ref wF)])) rfl (by rw [hml]; rfl) (Steps.refl _) (argsL := []) (rest := []) (lenOf own_pd1 rfl) rfl (by show 2 * 0 + _ ≤ _; exact Nat.le_of_eq rfl) (hb hby at_49) (fun _ _ => ⟨rfl, e6, (by decide : 0 + 0 ≤ _), (by decide : 0 + 0 ≤ _)⟩)
    dsimp only [Pt.U, Pt.locs, Pt.cells, Pt.slots] at X7 l7 y7 z7 st7 hQ7
    subst l7 y7 z7
    obtain ⟨hv7, N7q, eh7⟩ := hQ7
    subst hv7
    have N7 := Fr.app N5 N7q
    refine own_go (fun _ k => st7.trans k) ?_
    show own_Fin p.tables e below _ (T7.setTop (mkF m 52 #[.val (.int p1), .val (.ref wF), .val (.int (1 : Int32))] [(.int (1 : Int32))]))
    refine own_go (fun _ k => XS.ifNo X7.here hx rfl (hb hby at_52) rfl ((if0 _ _).trans (feq (by decide : ¬ ((1 : Int32) = (0 : Int32)))).1) k) ?_
    show own_Fin p.tables e below _ (T7.setTop (mkF m 55 #[.val (.int p1), .val (.ref wF), .val (.int (1 : Int32))] []))
    refine own_go (fun _ k => XS.aloadN X7.here hx rfl (hb hby at_55) rfl rfl k) ?_
    show own_Fin p.tables e below _ (T7.setTop (mkF m 56 #[.val (.int p1), .val (.ref wF), .val (.int (1 : Int32))] [(.ref wF)]))
    obtain ⟨cq8, kq8, q8a, q8b, q8c⟩ := isOf hZ eh7 EwF
    obtain ⟨_, _, ⟨T8, L8, k8, n8⟩, -, X8, ⟨Lc8, hQ8, l8, y8, z8⟩, st8⟩ := X7.virtualBack hx (y := (⟨"com/example/keen_trigger/keentrigger/core/RunStatus", "isRetried", "()Z"⟩ : MethodName)) (z := (⟨"com/example/keen_trigger/keentrigger/core/RunStatus", "isRetried", "()Z"⟩ : MethodName)) hown (mvT hZ (hw _ (List.mem_of_getElem? (i := 14) rfl))) (mvT hZ (hw _ (List.mem_of_getElem? (i := 15) rfl))) (notFace_of_selects (args := #[]) (mvT hZ (hw _ (List.mem_of_getElem? (i := 17) rfl)))) (mvT hZ (hw _ (List.mem_of_getElem? (i := 17) rfl))) (mvT hZ (hw _ (List.mem_of_getElem? (i := 16) rfl))) (by decide) (backOf (W := 0) (own_isRetried l Z a0 hw [] wF (1 : Int32) h0 n0 Z0 BwF (by first | assumption | decide | omega)) hZ (hw _ (List.mem_of_getElem? (i := 18) rfl)) (hw _ (List.mem_of_getElem? (i := 2) rfl)) (by decide) (by decide)) q8a q8c (g := (mkF m 56 #[.val (.int p1), .val (.ref wF), .val (.int (1 : Int32))] [(.ref wF)])) rfl (by rw [hml]; rfl) (Steps.refl _) (argsL := []) (rest := []) (lenOf own_pd1 rfl) rfl (by show 2 * 0 + _ ≤ _; exact Nat.le_of_eq rfl) (hb hby at_56) (fun _ _ => ⟨rfl, eh7, (by decide : 0 + 0 ≤ _), (by decide : 0 + 0 ≤ _)⟩)
    dsimp only [Pt.U, Pt.locs, Pt.cells, Pt.slots] at X8 l8 y8 z8 st8 hQ8
    subst l8 y8 z8
    obtain ⟨hv8, N8q, eh8⟩ := hQ8
    subst hv8
    have N8 := Fr.app N7 N8q
    refine own_go (fun _ k => st8.trans k) ?_
    show own_Fin p.tables e below _ (T8.setTop (mkF m 59 #[.val (.int p1), .val (.ref wF), .val (.int (1 : Int32))] [(.int (1 : Int32))]))
    refine own_go (fun _ k => XS.iloadN X8.here hx rfl (hb hby at_59) rfl k) ?_
    show own_Fin p.tables e below _ (T8.setTop (mkF m 60 #[.val (.int p1), .val (.ref wF), .val (.int (1 : Int32))] [(.int p1), (.int (1 : Int32))]))
    refine own_go (fun _ k => XS.ifNo X8.here hx rfl (hb hby at_60) rfl ((if0 _ _).trans (feq hc).1) k) ?_
    show own_Fin p.tables e below _ (T8.setTop (mkF m 63 #[.val (.int p1), .val (.ref wF), .val (.int (1 : Int32))] [(.int (1 : Int32))]))
    refine own_go (fun _ k => XS.iconst X8.here hx rfl (hb hby at_63) k) ?_
    show own_Fin p.tables e below _ (T8.setTop (mkF m 64 #[.val (.int p1), .val (.ref wF), .val (.int (1 : Int32))] [(.int (1 : Int32)), (.int (1 : Int32))]))
    refine own_go (fun _ k => XS.goto X8.here hx rfl (pc0 := 64) (pc' := 68) rfl (hb hby at_64) (by decide) (by decide) k) ?_
    show own_Fin p.tables e below _ (T8.setTop (mkF m 68 #[.val (.int p1), .val (.ref wF), .val (.int (1 : Int32))] [(.int (1 : Int32)), (.int (1 : Int32))]))
    refine own_go (fun _ k => XS.icmpNo X8.here hx rfl (hb hby at_68) rfl (teq (by decide : ((1 : Int32) = (1 : Int32)))).2 k) ?_
    show own_Fin p.tables e below _ (T8.setTop (mkF m 71 #[.val (.int p1), .val (.ref wF), .val (.int (1 : Int32))] []))
    refine own_go (fun _ k => XS.iconst X8.here hx rfl (hb hby at_71) k) ?_
    show own_Fin p.tables e below _ (T8.setTop (mkF m 72 #[.val (.int p1), .val (.ref wF), .val (.int (1 : Int32))] [(.int (1 : Int32))]))
    refine own_go (fun _ k => XS.goto X8.here hx rfl (pc0 := 72) (pc' := 76) rfl (hb hby at_72) (by decide) (by decide) k) ?_
    show own_Fin p.tables e below _ (T8.setTop (mkF m 76 #[.val (.int p1), .val (.ref wF), .val (.int (1 : Int32))] [(.int (1 : Int32))]))
    obtain ⟨fs, hr, hrun, hended, hW, hsame⟩ := X8.leave (v := some (.int (1 : Int32))) (fun h => by rw [Bd.returns] at h; cases h)
    refine ⟨_, _, ?_, hrun, hended, _, _, rfl, ?_, ⟨_, rfl⟩, hW, hsame.mono (by decide) (by decide)⟩
    · exact retN X8 hx (t := .boolean) Bd.returns (by simp) (hb hby at_76) hr
    · show Q_own_law Z p1 wS wF h0 n0 _ T8.heap _
      rw [eh8]
      exact ⟨rfl, N8⟩
set_option maxRecDepth 65536 in
set_option maxHeartbeats 40000000 in
theorem comes_1 {Post : Tables → Env → Array Value → State → Outcome → State → Prop} (hpost : ∀ tb e args s v u, (limb_1_1.after args s (.returned v) u = true ∧ limb_1_2.after args s (.returned v) u = true ∧ True) → FrameEnd s (.returned v) u (Jvm.fieldLocs frame_1_writes args s ++ Jvm.arrayLocs frame_1_arrays args s ++ Jvm.staticLocs frame_1_statics s) 0 0 → Post tb e args s (.returned v) u) :
    ArmFor flags0 classFile x code maxLocals ret World_1 tables_1 room_1 Calls_1 rest_1 Pre_1 Post := by
  intro l hfl _ _ p e ha hc hk s m args below hf hA hF happ hP
  obtain ⟨hcalls, hrest, hpre⟩ := hP
  obtain ⟨-, -, -, hnamed, -, -, -, hat⟩ := (Spec.applies_iff hf).mp happ
  obtain ⟨hg, hn⟩ := and_e (Cond.before_iff.mp (show (Jvm.Cond.and given_1 narrow_1).before args s = true from hpre))
  obtain ⟨gcount, gr0⟩ := and_e hg
  obtain ⟨w0, rfl⟩ : ∃ w0 : Value, args = #[w0] := by
    have hs : args.size = 1 := by simpa [Cond.value, given_1] using gcount
    obtain ⟨L⟩ := args
    match L, hs with
    | [w0], _ => exact ⟨w0, rfl⟩
  have hw := fun d (hd : d ∈ tables_1) => atoms_spec (ws := Jvm.Cond.code x code maxLocals ret :: tables_1) hat d (List.mem_cons_of_mem _ hd)
  have hfit : Fit s := fun {y c} hc i hi => by
    obtain ⟨ha, rfl⟩ := Array.getElem?_eq_some_iff.mp hc
    have q := List.all_eq_true.mp ((Array.all_eq_true_iff_forall_mem.mp hF) _ (Array.getElem_mem ha)) i (List.mem_range.mpr hi)
    simpa [Array.getElem?_eq_getElem hi] using q
  obtain ⟨i0, ei0⟩ := is_v gr0
  obtain rfl : w0 = (.int i0) := Option.some.inj ei0
  obtain ⟨n0, r0⟩ := and_e hn
  obtain ⟨n1, r1⟩ := and_e r0
  obtain ⟨n2, r2⟩ := and_e r1
  obtain ⟨n3, r3⟩ := and_e r2
  obtain ⟨n4, n5⟩ := and_e r3
  obtain ⟨wS, eS⟩ := exa_v n0
  obtain ⟨wF, eF⟩ := exa_v n3
  obtain ⟨n, o, h1, h2, h3, _, L, rfl, ⟨rfl, N⟩, hq⟩ := own_law l s _ hw tables_1 i0 wS wF s.heap s.heap.size (Nat.le_refl _) (Sta.start eS (Or.inr ⟨(hw _ (List.mem_of_getElem? (i := 2) rfl)), (hw _ (List.mem_of_getElem? (i := 5) rfl))⟩)) (Sta.start eF (Or.inr ⟨(hw _ (List.mem_of_getElem? (i := 2) rfl)), (hw _ (List.mem_of_getElem? (i := 22) rfl))⟩)) (Exa.start eS n0) (own_fld eS (own_eqI n1)) (own_fld eS (own_eqI n2)) (Exa.start eF n3) (own_fld eF (own_eqI n4)) (own_fld eF (own_eqI n5)) p e ha hc hk s m _ below hf ((Spec.applies_iff_loose hf).mp happ).1 ⟨rfl, State.Warmed39.refl s, rfl⟩ trivial
  refine ⟨n, _, h1, h2, h3, hpost _ _ _ _ _ _ ⟨Cond.after_iff.mpr rfl, Cond.after_iff.mpr (eq_i res_at (Term.int_eval (1)) rfl), trivial⟩ ⟨hq.1, hq.2.1, (hq.2.2.sift fun y hy => Or.inr (N y hy)).mono (by decide) (by decide)⟩⟩
theorem main_1_1 : Claimed_1_1 := comes_1 fun _ _ _ _ _ _ h hF => ⟨h.1, hF⟩
theorem main_1_2 : Claimed_1_2 := comes_1 fun _ _ _ _ _ _ h hF => ⟨h.2.1, hF⟩
end Jvm.Pilot.@@N@@
namespace Jvm.Pilot.@@N@@
open Jvm Jvm.ClassFile Sem Op Lib Jvm.Free Jvm.Stand Jvm.Pilot.@@N@@.Jvm.D
/-! MADE BY PROGRAM (witnessworld.py) out of the Statement's table words and the real class files: 12 classes; the members and pool entries that the words name. The judged class is class 1, her method 1. -/
namespace start1
open Jvm.ClassFile
def u (s : String) : CpInfo := .utf8 (stringToUtf16 s)
/-- a pool by its gaps: so many unusable entries, then the entry; so many at the end -/
def gap : Nat → List CpInfo → List CpInfo
  | 0, r => r
  | n + 1, r => .unusable :: gap n r
def poolList (es : List (Nat × CpInfo)) (last : Nat) : List CpInfo := es.foldr (fun e r => gap e.1 (e.2 :: r)) (gap last [])
def pool (es : List (Nat × CpInfo)) (last : Nat) : Array CpInfo := ⟨poolList es last⟩
def fileOf (pool : Array CpInfo) (this : Nat) (attrs : Array Attribute := #[]) (ms : Array MethodInfo := #[]) (fl : Nat := 33) (sup : Nat := 0) (ifs : Array Nat := #[]) (fds : Array FieldInfo := #[]) : ClassFile where
  minorVersion := 0
  majorVersion := 65
  constantPool := pool
  accessFlags := fl
  thisClass := this
  superClass := sup
  interfaces := ifs
  fields := fds
  methods := ms
  attributes := attrs
def plain (name : String) (sup : Option ClassId) : Class where
  name := name
  kind := .ordinary
  loader := none
  accessFlags := 33
  super := sup
  interfaces := #[]
  cf := none
  fields := #[]
  methods := #[]
  instanceTypes := #[]
  staticTypes := #[]
  resolved := #[]
  callSites := []
  init := .initialized
  statics := none
  mirror := none

def pool0 : Array CpInfo := pool [(5, u "<init>"), (0, u "()V"), (1, .class_ 10), (1, u "java/lang/Object")] 113

def k0m0 : Method := { name := "<init>", desc := "()V", sig := { parameters := [], returnType := none }, accessFlags := 1, code := none }
/-- java/lang/Object -/
def k0 : Class := { plain "java/lang/Object" none with
  accessFlags := 33
  interfaces := #[]
  cf := some (fileOf pool0 8 #[] #[{ accessFlags := 1, nameIndex := 5, descriptorIndex := 6, attributes := #[] }] 33 0 #[] #[])
  fields := #[]
  methods := #[k0m0]
  instanceTypes := #[]
  staticTypes := #[]
  resolved := Array.replicate 124 none
  statics := none }

def pool1 : Array CpInfo := pool [(2, .class_ 4), (1, u "java/lang/Object"), (0, u "<init>"), (0, u "()V"), (0, .methodref 8 9), (0, .class_ 10), (0, .nameAndType 11 12), (0, u "com/example/keen_trigger/keentrigger/core/RunStatus"), (0, u "ofExitCode"), (0, u "(I)Lcom/example/keen_trigger/keentrigger/core/RunStatus;"), (0, .fieldref 8 14), (0, .nameAndType 15 16), (0, u "SUCCEEDED"), (0, u "Lcom/example/keen_trigger/keentrigger/core/RunStatus;"), (0, .fieldref 8 18), (0, .nameAndType 19 16), (0, u "FAILED"), (0, .methodref 8 21), (0, .nameAndType 22 23), (0, u "isReported"), (0, u "()Z"), (0, .methodref 8 25), (0, .nameAndType 26 23), (0, u "isRetried"), (0, .class_ 28), (0, u "com/example/keen_trigger/keentrigger/core/RunStatusOfExitCodePinLaw"), (2, u "law"), (0, u "(I)Z")] 3

def k1m0 : Method := { name := "<init>", desc := "()V", sig := { parameters := [], returnType := none }, accessFlags := 2, code := none }
def k1c1 : Code := { maxStack := 2, maxLocals := 3, code := code, exceptionTable := #[], attributes := #[] }
def k1m1 : Method := { name := "law", desc := "(I)Z", sig := { parameters := [.int], returnType := some .boolean }, accessFlags := 9, code := some k1c1 }
/-- com/example/keen_trigger/keentrigger/core/RunStatusOfExitCodePinLaw -/
def k1 : Class := { plain "com/example/keen_trigger/keentrigger/core/RunStatusOfExitCodePinLaw" (some 0) with
  accessFlags := 49
  interfaces := #[]
  cf := some (fileOf pool1 27 #[] #[{ accessFlags := 2, nameIndex := 5, descriptorIndex := 6, attributes := #[] }, { accessFlags := 9, nameIndex := 31, descriptorIndex := 32, attributes := #[] }] 49 2 #[] #[])
  fields := #[]
  methods := #[k1m0, k1m1]
  instanceTypes := #[]
  staticTypes := #[]
  resolved := Array.replicate 36 none
  statics := none }

def pool2 : Array CpInfo := pool [(1, .class_ 2), (0, u "java/lang/constant/Constable"), (0, .class_ 4), (0, u "java/lang/Object")] 6

/-- java/lang/constant/Constable -/
def k2 : Class := { plain "java/lang/constant/Constable" (some 0) with
  accessFlags := 1537
  interfaces := #[]
  cf := some (fileOf pool2 1 #[] #[] 1537 3 #[] #[])
  fields := #[]
  methods := #[]
  instanceTypes := #[]
  staticTypes := #[]
  resolved := Array.replicate 11 none
  statics := none }

def pool3 : Array CpInfo := pool [(1, .class_ 2), (0, u "java/lang/Comparable"), (0, .class_ 4), (0, u "java/lang/Object")] 7

/-- java/lang/Comparable -/
def k3 : Class := { plain "java/lang/Comparable" (some 0) with
  accessFlags := 1537
  interfaces := #[]
  cf := some (fileOf pool3 1 #[] #[] 1537 3 #[] #[])
  fields := #[]
  methods := #[]
  instanceTypes := #[]
  staticTypes := #[]
  resolved := Array.replicate 12 none
  statics := none }

def pool4 : Array CpInfo := pool [(1, .class_ 2), (0, u "java/io/Serializable"), (0, .class_ 4), (0, u "java/lang/Object")] 2

/-- java/io/Serializable -/
def k4 : Class := { plain "java/io/Serializable" (some 0) with
  accessFlags := 1537
  interfaces := #[]
  cf := some (fileOf pool4 1 #[] #[] 1537 3 #[] #[])
  fields := #[]
  methods := #[]
  instanceTypes := #[]
  staticTypes := #[]
  resolved := Array.replicate 7 none
  statics := none }

def pool5 : Array CpInfo := pool [(2, .class_ 4), (1, u "java/lang/Enum"), (0, u "name"), (0, u "Ljava/lang/String;"), (2, u "ordinal"), (0, u "I"), (1, .class_ 14), (1, u "java/lang/Object"), (4, u "hash"), (86, .class_ 108), (1, u "java/lang/Enum$EnumDesc"), (2, .class_ 112), (0, u "java/lang/constant/Constable"), (0, .class_ 114), (0, u "java/lang/Comparable"), (0, .class_ 116), (0, u "java/io/Serializable")] 87

/-- java/lang/Enum -/
def k5 : Class := { plain "java/lang/Enum" (some 0) with
  accessFlags := 1057
  interfaces := #[2, 3, 4]
  cf := some (fileOf pool5 2 #[.nestMembers #[106]] #[] 1057 12 #[111, 113, 115] #[{ accessFlags := 18, nameIndex := 5, descriptorIndex := 6, attributes := #[] }, { accessFlags := 18, nameIndex := 9, descriptorIndex := 10, attributes := #[] }, { accessFlags := 2, nameIndex := 19, descriptorIndex := 10, attributes := #[] }])
  fields := #[{ name := "name", type := (.object "java/lang/String"), accessFlags := 18, slot := 0, constantValue := 0 }, { name := "ordinal", type := .int, accessFlags := 18, slot := 1, constantValue := 0 }, { name := "hash", type := .int, accessFlags := 2, slot := 2, constantValue := 0 }]
  methods := #[]
  instanceTypes := #[(.object "java/lang/String"), .int, .int]
  staticTypes := #[]
  resolved := Array.replicate 204 none
  statics := none }

def pool6 : Array CpInfo := pool [(1, .class_ 2), (0, u "com/example/keen_trigger/keentrigger/core/RunStatus"), (2, u "RUNNING"), (0, u "Lcom/example/keen_trigger/keentrigger/core/RunStatus;"), (0, .fieldref 1 8), (0, .nameAndType 9 6), (0, u "SUCCEEDED"), (0, .fieldref 1 11), (0, .nameAndType 12 6), (0, u "FAILED"), (2, u "LOST"), (2, u "$VALUES"), (0, u "[Lcom/example/keen_trigger/keentrigger/core/RunStatus;"), (6, .class_ 28), (1, u "java/lang/Enum"), (6, .fieldref 1 36), (0, .nameAndType 37 38), (0, u "reported"), (0, u "Z"), (0, .fieldref 1 40), (0, .nameAndType 41 38), (0, u "retried"), (18, u "ofExitCode"), (0, u "(I)Lcom/example/keen_trigger/keentrigger/core/RunStatus;"), (1, u "isReported"), (0, u "()Z"), (0, u "isRetried")] 5

def k6c0 : Code := { maxStack := 1, maxLocals := 2, code := prog_8_method_4_code, exceptionTable := #[], attributes := #[] }
def k6m0 : Method := { name := "ofExitCode", desc := "(I)Lcom/example/keen_trigger/keentrigger/core/RunStatus;", sig := { parameters := [.int], returnType := some (.object "com/example/keen_trigger/keentrigger/core/RunStatus") }, accessFlags := 9, code := some k6c0 }
def k6c1 : Code := { maxStack := 1, maxLocals := 1, code := prog_8_method_5_code, exceptionTable := #[], attributes := #[] }
def k6m1 : Method := { name := "isReported", desc := "()Z", sig := { parameters := [], returnType := some .boolean }, accessFlags := 1, code := some k6c1 }
def k6c2 : Code := { maxStack := 1, maxLocals := 1, code := prog_8_method_6_code, exceptionTable := #[], attributes := #[] }
def k6m2 : Method := { name := "isRetried", desc := "()Z", sig := { parameters := [], returnType := some .boolean }, accessFlags := 1, code := some k6c2 }
/-- com/example/keen_trigger/keentrigger/core/RunStatus -/
def k6 : Class := { plain "com/example/keen_trigger/keentrigger/core/RunStatus" (some 5) with
  accessFlags := 16433
  interfaces := #[]
  cf := some (fileOf pool6 1 #[] #[{ accessFlags := 9, nameIndex := 60, descriptorIndex := 61, attributes := #[] }, { accessFlags := 1, nameIndex := 63, descriptorIndex := 64, attributes := #[] }, { accessFlags := 1, nameIndex := 65, descriptorIndex := 64, attributes := #[] }] 16433 26 #[] #[{ accessFlags := 16409, nameIndex := 5, descriptorIndex := 6, attributes := #[] }, { accessFlags := 16409, nameIndex := 9, descriptorIndex := 6, attributes := #[] }, { accessFlags := 16409, nameIndex := 12, descriptorIndex := 6, attributes := #[] }, { accessFlags := 16409, nameIndex := 15, descriptorIndex := 6, attributes := #[] }, { accessFlags := 18, nameIndex := 37, descriptorIndex := 38, attributes := #[] }, { accessFlags := 18, nameIndex := 41, descriptorIndex := 38, attributes := #[] }, { accessFlags := 4122, nameIndex := 18, descriptorIndex := 19, attributes := #[] }])
  fields := #[{ name := "RUNNING", type := (.object "com/example/keen_trigger/keentrigger/core/RunStatus"), accessFlags := 16409, slot := 0, constantValue := 0 }, { name := "SUCCEEDED", type := (.object "com/example/keen_trigger/keentrigger/core/RunStatus"), accessFlags := 16409, slot := 1, constantValue := 0 }, { name := "FAILED", type := (.object "com/example/keen_trigger/keentrigger/core/RunStatus"), accessFlags := 16409, slot := 2, constantValue := 0 }, { name := "LOST", type := (.object "com/example/keen_trigger/keentrigger/core/RunStatus"), accessFlags := 16409, slot := 3, constantValue := 0 }, { name := "reported", type := .boolean, accessFlags := 18, slot := 3, constantValue := 0 }, { name := "retried", type := .boolean, accessFlags := 18, slot := 4, constantValue := 0 }, { name := "$VALUES", type := (.array (.object "com/example/keen_trigger/keentrigger/core/RunStatus")), accessFlags := 4122, slot := 4, constantValue := 0 }]
  methods := #[k6m0, k6m1, k6m2]
  instanceTypes := #[(.object "java/lang/String"), .int, .int, .boolean, .boolean]
  staticTypes := #[(.object "com/example/keen_trigger/keentrigger/core/RunStatus"), (.object "com/example/keen_trigger/keentrigger/core/RunStatus"), (.object "com/example/keen_trigger/keentrigger/core/RunStatus"), (.object "com/example/keen_trigger/keentrigger/core/RunStatus"), (.array (.object "com/example/keen_trigger/keentrigger/core/RunStatus"))]
  resolved := Array.replicate 71 none
  statics := some 0 }

def pool7 : Array CpInfo := pool [(1, u "java/lang/Cloneable"), (0, .class_ 1), (0, u "java/lang/Object"), (0, .class_ 3)] 3

/-- java/lang/Cloneable -/
def k7 : Class := { plain "java/lang/Cloneable" (some 0) with
  accessFlags := 1537
  interfaces := #[]
  cf := some (fileOf pool7 2 #[] #[] 1537 4 #[] #[])
  fields := #[]
  methods := #[]
  instanceTypes := #[]
  staticTypes := #[]
  resolved := Array.replicate 8 none
  statics := none }

/-- the primitive byte -/
def k8 : Class := { plain "byte" none with kind := .primitive 'B', accessFlags := 0x411 }
/-- [B -/
def k9 : Class := { plain "[B" (some 0) with kind := .array 8 .byte, interfaces := #[7, 4], accessFlags := 1041 }

/-- the primitive int -/
def k10 : Class := { plain "int" none with kind := .primitive 'I', accessFlags := 0x411 }
/-- [I -/
def k11 : Class := { plain "[I" (some 0) with kind := .array 10 .int, interfaces := #[7, 4], accessFlags := 1041 }

def heap : Heap := #[{ cls := 6, slots := #[.null, .ref 1, .ref 2, .null, .null], vm := .statics 6 },
  { cls := 6, slots := #[.null, .int 1, .int 0, .int 1, .int 0], vm := .none },
  { cls := 6, slots := #[.null, .int 2, .int 0, .int 1, .int 1], vm := .none }]
def classes : Array Class := #[k0, k1, k2, k3, k4, k5, k6, k7, k8, k9, k10, k11]
def interned : List (Array UInt16 × Addr) := []
def slotsUsed : Nat := 15
def theMethod : MethodId := ⟨1, 1⟩
def args0 : Array Value := #[.int 0]
def aboutOver (below : List Frame) : State where
  vm := { classes := classes, interned := interned.toArray }
  heap := heap
  slotsUsed := slotsUsed
  threads := #[{ frames := .invoking theMethod args0 :: below }]
def below0 : List Frame := [.native { method := ⟨0, 0⟩, args := #[] }]
def about1 : State := aboutOver below0
def p0 : Program := .bare "" "" ""
def e0 : Env := launch0.env 0 0 0
theorem w_frames : about1.frames = Frame.invoking theMethod args0 :: below0 := rfl
set_option maxRecDepth 65536 in
theorem w_args : argsFit about1.vm theMethod args0 = true := by decide +kernel
set_option maxRecDepth 65536 in
theorem w_heap : heapFits about1 = true := by decide +kernel
set_option maxRecDepth 65536 in
theorem w_runnable : about1.curStatus? = some .runnable := by decide +kernel
set_option maxRecDepth 65536 in
theorem w_alone : about1.alone = true := by decide +kernel
set_option maxRecDepth 65536 in
theorem w_named : about1.methodNamed? x = some theMethod := by decide +kernel
set_option maxRecDepth 65536 in
theorem w_hears : about1.hears theMethod below0 = true := by decide +kernel
set_option maxRecDepth 65536 in
theorem w_ripe : about1.ripe theMethod args0 below0 = true := by decide +kernel
theorem w_running : about1.status = .running := rfl
set_option maxRecDepth 65536 in
theorem w_room : about1.hasRoom e0.platform room_1 = true :=
  launch0.hasRoom_least _ room_1 (by decide +kernel) (by decide +kernel) (by decide +kernel) (by decide +kernel) (by decide +kernel) (by decide +kernel)
theorem allAtoms_all (ts : List Jvm.Cond) (a : Array Jvm.Value) (st : Jvm.State) : (allAtoms ts).before a st = ts.all (fun c => c.before a st) := by
  induction ts with
  | nil => rfl
  | cons c t ih =>
    show (Jvm.Cond.and c (allAtoms t)).before a st = _
    rw [Jvm.Cond.before_and, ih, List.all_cons]
def words1 : List Jvm.Cond := Jvm.Cond.code x code maxLocals ret :: tables_1
/-- a 'code' word, met by the world's own term for the bytes: nothing is compared byte by byte -/
theorem code_word {y : MethodName} {bytes : ByteArray} {mx : Nat} {rt : Option FieldType} {a : Array Value} {s : State} {m : MethodId} {meth : Method} {c : Code} (h1 : s.methodNamed? y = some m) (h2 : s.vm.method? m = some meth) (h3 : meth.code = some c) (h4 : c.code = bytes)
    (h5 : (c.maxLocals == mx && c.exceptionTable.isEmpty && decide (c.maxStack ≤ mostOperands) && decide (meth.sig.returnType = rt) && !meth.locks && decide (parseMethodDescriptor y.desc = some meth.sig)) = true) : (Jvm.Cond.code y bytes mx rt).before a s = true := by
  simp only [Bool.and_eq_true, beq_iff_eq, Bool.not_eq_true', decide_eq_true_eq] at h5
  obtain ⟨⟨⟨⟨⟨g1, g2⟩, g3⟩, g4⟩, g5⟩, g6⟩ := h5
  simp [Cond.before, Cond.holds, Cond.value, h1, h2, h3, h4, g1, g2, g3, g4, g5, g6]
def isCode : Jvm.Cond → Bool
  | .code _ _ _ _ => true
  | _ => false
theorem all_split {L : List Jvm.Cond} {P : Jvm.Cond → Bool} (h1 : L.all (fun c => isCode c || P c) = true) (h2 : ∀ c ∈ L.filter isCode, P c = true) : L.all P = true := by
  refine List.all_eq_true.mpr fun c hc => ?_
  have h := List.all_eq_true.mp h1 c hc
  rcases Bool.eq_false_or_eq_true (isCode c) with hi | hi
  · exact h2 c (List.mem_filter.mpr ⟨hc, hi⟩)
  · simpa [hi] using h
set_option maxRecDepth 65536 in
theorem w_c0 : (Jvm.Cond.code x code maxLocals ret).before args0 about1 = true := code_word (m := ⟨1, 1⟩) (meth := k1m1) (c := k1c1) (by decide +kernel) rfl rfl rfl (by decide +kernel)
set_option maxRecDepth 65536 in
theorem w_c1 : (Jvm.Cond.code ({ cls := "com/example/keen_trigger/keentrigger/core/RunStatus", name := "ofExitCode", desc := "(I)Lcom/example/keen_trigger/keentrigger/core/RunStatus;" } : Jvm.MethodName) prog_8_method_4_code (2 : Nat) (Option.some (Jvm.ClassFile.FieldType.object "com/example/keen_trigger/keentrigger/core/RunStatus"))).before args0 about1 = true := code_word (m := ⟨6, 0⟩) (meth := k6m0) (c := k6c0) (by decide +kernel) rfl rfl rfl (by decide +kernel)
set_option maxRecDepth 65536 in
theorem w_c2 : (Jvm.Cond.code ({ cls := "com/example/keen_trigger/keentrigger/core/RunStatus", name := "isReported", desc := "()Z" } : Jvm.MethodName) prog_8_method_5_code (1 : Nat) (Option.some Jvm.ClassFile.FieldType.boolean)).before args0 about1 = true := code_word (m := ⟨6, 1⟩) (meth := k6m1) (c := k6c1) (by decide +kernel) rfl rfl rfl (by decide +kernel)
set_option maxRecDepth 65536 in
theorem w_c3 : (Jvm.Cond.code ({ cls := "com/example/keen_trigger/keentrigger/core/RunStatus", name := "isRetried", desc := "()Z" } : Jvm.MethodName) prog_8_method_6_code (1 : Nat) (Option.some Jvm.ClassFile.FieldType.boolean)).before args0 about1 = true := code_word (m := ⟨6, 2⟩) (meth := k6m2) (c := k6c2) (by decide +kernel) rfl rfl rfl (by decide +kernel)
def codes1 : List Jvm.Cond := [Jvm.Cond.code x code maxLocals ret, Jvm.Cond.code ({ cls := "com/example/keen_trigger/keentrigger/core/RunStatus", name := "ofExitCode", desc := "(I)Lcom/example/keen_trigger/keentrigger/core/RunStatus;" } : Jvm.MethodName) prog_8_method_4_code (2 : Nat) (Option.some (Jvm.ClassFile.FieldType.object "com/example/keen_trigger/keentrigger/core/RunStatus")), Jvm.Cond.code ({ cls := "com/example/keen_trigger/keentrigger/core/RunStatus", name := "isReported", desc := "()Z" } : Jvm.MethodName) prog_8_method_5_code (1 : Nat) (Option.some Jvm.ClassFile.FieldType.boolean), Jvm.Cond.code ({ cls := "com/example/keen_trigger/keentrigger/core/RunStatus", name := "isRetried", desc := "()Z" } : Jvm.MethodName) prog_8_method_6_code (1 : Nat) (Option.some Jvm.ClassFile.FieldType.boolean)]
set_option maxRecDepth 65536 in
theorem codes_eq : words1.filter isCode = codes1 := rfl
theorem w_codes : ∀ c ∈ words1.filter isCode, c.before args0 about1 = true := by
  rw [codes_eq]
  intro c hc
  simp only [codes1, List.mem_cons, List.not_mem_nil, or_false] at hc
  rcases hc with rfl | rfl | rfl | rfl
  · exact w_c0
  · exact w_c1
  · exact w_c2
  · exact w_c3
set_option maxRecDepth 65536 in
theorem w_t1 : (words1.take 24).all (fun c => isCode c || c.before args0 about1) = true := by decide +kernel
set_option maxRecDepth 65536 in
theorem w_t2 : (words1.drop 24).all (fun c => isCode c || c.before args0 about1) = true := by decide +kernel
theorem w_tables : (allAtoms (Jvm.Cond.code x code maxLocals ret :: tables_1)).before args0 about1 = true := by
  rw [allAtoms_all]
  show words1.all (fun c => c.before args0 about1) = true
  refine all_split ?_ w_codes
  rw [← List.take_append_drop 24 words1, List.all_append, w_t1, w_t2]
  rfl
set_option maxRecDepth 65536 in
theorem w_case : (Jvm.Cond.and given_1 narrow_1).before args0 about1 = true := by decide +kernel
theorem w_applies : (headSpec (Jvm.Cond.code x code maxLocals ret :: tables_1) room_1).applies x e0.platform about1 = true :=
  (Spec.applies_iff w_frames).mpr ⟨w_running, w_runnable, w_alone, w_named, w_hears, w_ripe, w_room, w_tables⟩
theorem atStart : AtStart classFile x code maxLocals ret World_1 tables_1 room_1 Calls_1 rest_1 Pre_1 launch0 p0 e0 about1 theMethod args0 below0 :=
  ⟨lists_1, trivial, launch0.admits_env _ _ _, launch0.least_env, fairChoices_fair.cas, fairChoices_fair.clock, w_frames, w_args, w_heap, w_applies, trivial, trivial, w_case⟩
end start1
theorem witness_1 : WitnessClaimed_1 := ⟨start1.p0, start1.e0, start1.about1, start1.theMethod, start1.args0, start1.below0, start1.atStart⟩
end Jvm.Pilot.@@N@@
