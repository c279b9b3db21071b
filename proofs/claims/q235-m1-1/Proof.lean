import JvmDerived
import JvmDerived.Pilot.@@N@@Statement
import JvmDerived.Pilot.@@N@@Code
set_option linter.unusedVariables false
set_option linter.unusedSimpArgs false
namespace Jvm.Pilot.@@N@@
open Jvm Jvm.ClassFile Sem Op Lib Jvm.Free Jvm.Stand Jvm.LawKit Jvm.RoadKit Bundle Jvm.Pilot.@@N@@.Jvm.D
section OwnHead
variable {p : Program} {l : Launch} {e : Env} {R : Room} {s : State} {m : MethodId} {args : Array Value} {below : List Frame} {meth : Method} {c : Code} {T : State} {locs : List Loc} {cells slots : Nat}
theorem own_retI (X : Stand p l e R s m args below meth c T locs cells slots) (hx : p.tables.exec = Jvm.exec) {pc : Nat} {Ls : Array Slot} {z : Int32} {rest : List Value} (hret : meth.sig.returnType = some .int) (hd : decode c.code pc = .ok (.ireturn, 1)) {fs : List Frame}
    (hl : ∀ (f : JFrame) (acts : List Action), f.method = m → f.locked = none → f.entered = [] → (doReturn e (T.setTop f) acts (some (.int z))).1 = T.setFrames fs) : Steps p.tables e below (T.setTop (mkF m pc Ls (.int z :: rest))) (T.setFrames fs) := by
  have hm' : T.vm.method? m = some meth := X.method'
  have hn : narrow .int (.int z) = .int z := rfl
  show Steps p.tables e below (T.setTop { method := m, pc := pc, locals := Ls, stack := _ :: rest, locked := none }) _
  jvm_step X.here [X.here.top, hx, hd, hm', hret, hn]
  first | (intro acts; rw [hl _ acts rfl rfl rfl]) | rw [hl _ _ rfl rfl rfl]
  exact Steps.refl _
/-- the run comes to an end that P speaks of -/
abbrev own_Fin (tb : Tables) (e : Env) (below : List Frame) (P : Outcome → State → Prop) (F : State) : Prop := ∃ s₂ o, Steps tb e below F s₂ ∧ s₂.status = .running ∧ Ended s₂ below o ∧ P o s₂
theorem own_go {tb : Tables} {P : Outcome → State → Prop} {F F' : State} (h : ∀ t, Steps tb e below F' t → Steps tb e below F t) (k : own_Fin tb e below P F') : own_Fin tb e below P F := by
  obtain ⟨s₂, o, h1, h2⟩ := k
  exact ⟨s₂, o, h _ h1, h2⟩
theorem own_eqI {args : Array Value} {first s : State} {o : Option Outcome} {idx : List Nat} {a : Term} {k : Int32} (h : (Cond.eq a (.int k)).value args first o s idx = some true) : a.eval args first o idx s = some (.int k) := by
  simp only [Cond.value, Term.eval] at h
  cases ht : a.eval args first o idx s with
  | none => simp [ht] at h
  | some x => cases x <;> simp [ht] at h ⊢; exact h
theorem own_eqJ {args : Array Value} {first s : State} {o : Option Outcome} {idx : List Nat} {a : Term} {k : Int64} (h : (Cond.eq a (.long k)).value args first o s idx = some true) : a.eval args first o idx s = some (.long k) := by
  simp only [Cond.value, Term.eval] at h
  cases ht : a.eval args first o idx s with
  | none => simp [ht] at h
  | some x => cases x <;> simp [ht] at h ⊢; exact h
theorem own_fld {args : Array Value} {Z : State} {t : Term} {a : Addr} {C n d : String} {v : Value} (ht : t.eval args Z none [] Z = some (.ref a)) (h : (Term.field t C n d).eval args Z none [] Z = some v) : Fld Z Z.heap a C n d v := Fld.start ((fld_at ht).symm.trans h)
theorem own_selp {s : State} {args : Array Value} {y : MethodName} {n : Nat} (wi : (Cond.instantiable y.cls n).before args s = true) (hpriv : s.PrivateAt y) (hinst : (Cond.instanceMethod y).before args s = true) (hy : y.cls ≠ "java/lang/invoke/MethodHandle" ∧ y.cls ≠ "java/lang/invoke/VarHandle") : (Cond.selects y.cls y y).before args s = true := by
  obtain ⟨c, k, h1, h2, -, h4, -⟩ := Cond.instantiable_spec wi
  exact selects_self_of_private h1 h2 (Bool.or_eq_false_iff.mp h4).1 hpriv hinst hy
theorem own_len {args : Array Value} {first s : State} {o : Option Outcome} {idx : List Nat} {t : Term} {a : Addr} {cl : Cell} {n : Int32} (h : (Term.length t).eval args first o idx s = some (.int n)) (ht : t.eval args first o idx s = some (.ref a)) (hc : s.arrayAt? a = some cl) : cl.slots.size < 2 ^ 31 ∧ cl.slots.size.toInt32 = n := by
  simp only [Term.eval, ht, hc, Option.bind_eq_bind, Option.bind_some] at h
  split at h
  · rename_i q
    exact ⟨q, by simpa using h⟩
  · simp at h
end OwnHead
theorem d1_0 : decode prog_40_method_4_code 0 = .ok (.iload_n 0, 1) := by decide +kernel
theorem d1_1 : decode prog_40_method_4_code 1 = .ok (.ifCond .eq 9, 3) := by decide +kernel
theorem d1_4 : decode prog_40_method_4_code 4 = .ok (.getstatic 10, 3) := by decide +kernel
theorem d1_7 : decode prog_40_method_4_code 7 = .ok (.goto 16, 3) := by decide +kernel
theorem d1_10 : decode prog_40_method_4_code 10 = .ok (.iload_n 1, 1) := by decide +kernel
theorem d1_11 : decode prog_40_method_4_code 11 = .ok (.ifCond .eq 9, 3) := by decide +kernel
theorem d1_14 : decode prog_40_method_4_code 14 = .ok (.getstatic 7, 3) := by decide +kernel
theorem d1_17 : decode prog_40_method_4_code 17 = .ok (.goto 6, 3) := by decide +kernel
theorem d1_20 : decode prog_40_method_4_code 20 = .ok (.getstatic 3, 3) := by decide +kernel
theorem d1_23 : decode prog_40_method_4_code 23 = .ok (.areturn, 1) := by decide +kernel
theorem own_pn0 : plainName "com/example/quietgrant/quietgrant/server/Session$State" = true := by first | (simp [plainName, overriddenIn]; done) | decide +kernel
theorem own_pn1 : plainName "com/example/quietgrant/quietgrant/server/StateOfPinLaw" = true := by first | (simp [plainName, overriddenIn]; done) | decide +kernel
theorem own_pd0 : parseMethodDescriptor "(ZZ)Lcom/example/quietgrant/quietgrant/server/Session$State;" = some ⟨[.boolean, .boolean], some (.object "com/example/quietgrant/quietgrant/server/Session$State")⟩ := by decide +kernel
def Q_own_of (Z : State) (p1 : Int32) (p2 : Int32) (wA : Addr) (wE : Addr) (wR : Addr) (h0 : Heap) (n0 : Nat) (v : Option Value) (h : Heap) (L : List Loc) : Prop := v = some (.ref (if p1 = (0 : Int32) then (if p2 = (0 : Int32) then wA else wR) else wE)) ∧ Fr n0 L ∧ h = h0
theorem ef_own_of (m : MethodId) (x0 : Int32) (x1 : Int32) : entryFrame m #[(.int x0), (.int x1)] 2 = mkF m 0 #[.val (.int x0), .val (.int x1)] [] := by first | (simp [entryFrame, mkF, argsToLocals, Value.category]; done) | rfl
set_option maxRecDepth 65536 in
set_option maxHeartbeats 40000000 in
theorem own_of (l : Launch) (Z : State) (a0 : Array Value) (hw : ∀ d ∈ tables_1, d.before a0 Z = true) (ws : List Jvm.Cond) (p1 : Int32) (p2 : Int32) (wA : Addr) (wE : Addr) (wR : Addr) (h0 : Heap) (n0 : Nat) (Z0 : n0 ≤ h0.size) (SwA : Sta Z h0 "com/example/quietgrant/quietgrant/server/Session$State" "ACTIVE" "Lcom/example/quietgrant/quietgrant/server/Session$State;" (.ref wA)) (SwE : Sta Z h0 "com/example/quietgrant/quietgrant/server/Session$State" "EXPIRED" "Lcom/example/quietgrant/quietgrant/server/Session$State;" (.ref wE)) (SwR : Sta Z h0 "com/example/quietgrant/quietgrant/server/Session$State" "REVOKED" "Lcom/example/quietgrant/quietgrant/server/Session$State;" (.ref wR)) :
    MetFree l (⟨"com/example/quietgrant/quietgrant/server/Session$State", "of", "(ZZ)Lcom/example/quietgrant/quietgrant/server/Session$State;"⟩ : MethodName) (head1 (Jvm.Cond.code (⟨"com/example/quietgrant/quietgrant/server/Session$State", "of", "(ZZ)Lcom/example/quietgrant/quietgrant/server/Session$State;"⟩ : MethodName) prog_40_method_4_code 2 (some (.object "com/example/quietgrant/quietgrant/server/Session$State")) :: ws) ({ frames := 0, cells := 0, slots := 0, locals := 0 } : Room)) (fun a U => a = #[(.int p1), (.int p2)] ∧ Z.Warmed39 U.vm ∧ U.heap = h0) (fun _ _ _ _ _ => True) (fun _ U o U' => ∃ v L, o = .returned v ∧ Q_own_of Z p1 p2 wA wE wR h0 n0 v U'.heap L ∧ FrameEnd U o U' L ({ frames := 0, cells := 0, slots := 0, locals := 0 } : Room).cells ({ frames := 0, cells := 0, slots := 0, locals := 0 } : Room).slots) := by
  refine MetFree.of_bodySF (plainFor_of_name own_pn0) hisR ?_
  intro p e s m args below meth c s₁ Bd hml0 hP hK
  obtain ⟨rfl, hZ, hh⟩ := hP
  have hx := Bd.exec
  have hby := Bd.bytes
  have hml : c.maxLocals = 2 := hml0
  have hown : s.vm.findClass "com/example/quietgrant/quietgrant/server/Session$State" = some m.cls := findClass_of_methodNamed Bd.named
  have hnm := (name_of_methodNamed Bd.named Bd.method).1
  have X0 : Stand p l e ({ frames := 0, cells := 0, slots := 0, locals := 0 } : Room) s m #[(.int p1), (.int p2)] below meth c s₁ [] 0 0 := Stand.of_body Bd
  have e0 : s₁.heap = h0 := by rw [← hh, Bd.state]; rfl
  have N0 := Fr.nil n0
  show own_Fin p.tables e below _ (s₁.setTop (entryFrame m #[(.int p1), (.int p2)] 2))
  refine own_go (fun _ k => castTop (ef_own_of m p1 p2) k) ?_
  show own_Fin p.tables e below _ (s₁.setTop (mkF m 0 #[.val (.int p1), .val (.int p2)] []))
  refine own_go (fun _ k => XS.iloadN X0.here hx rfl (hb hby d1_0) rfl k) ?_
  show own_Fin p.tables e below _ (s₁.setTop (mkF m 1 #[.val (.int p1), .val (.int p2)] [(.int p1)]))
  by_cases hc1 : p1 = (0 : Int32)
  · refine own_go (fun _ k => XS.ifYes X0.here hx rfl (pc0 := 1) (pc' := 10) rfl (hb hby d1_1) rfl ((if0 _ _).trans (teq hc1).1) (by decide) (by decide) k) ?_
    show own_Fin p.tables e below _ (s₁.setTop (mkF m 10 #[.val (.int p1), .val (.int p2)] []))
    refine own_go (fun _ k => XS.iloadN X0.here hx rfl (hb hby d1_10) rfl k) ?_
    show own_Fin p.tables e below _ (s₁.setTop (mkF m 11 #[.val (.int p1), .val (.int p2)] [(.int p2)]))
    by_cases hc11 : p2 = (0 : Int32)
    · refine own_go (fun _ k => XS.ifYes X0.here hx rfl (pc0 := 11) (pc' := 20) rfl (hb hby d1_11) rfl ((if0 _ _).trans (teq hc11).1) (by decide) (by decide) k) ?_
      show own_Fin p.tables e below _ (s₁.setTop (mkF m 20 #[.val (.int p1), .val (.int p2)] []))
      obtain ⟨T1, X1, e1, st1⟩ := getS2 X0 hx hZ hown (host := "") (Or.inl (hw _ (List.mem_of_getElem? (i := 4) rfl))) Via.refl e0 SwA (g := (mkF m 20 #[.val (.int p1), .val (.int p2)] [])) rfl (hb hby d1_20)
      refine own_go st1 ?_
      show own_Fin p.tables e below _ (T1.setTop (mkF m 23 #[.val (.int p1), .val (.int p2)] [(.ref wA)]))
      obtain ⟨fs, hr, hrun, hended, hW, hsame⟩ := X1.leave (v := some (.ref wA)) (fun h => by rw [Bd.returns] at h; cases h)
      refine ⟨_, _, ?_, hrun, hended, _, _, rfl, ?_, ⟨_, rfl⟩, hW, hsame.mono (by decide) (by decide)⟩
      · jvm_step X1.here [X1.here.top, hx, (hb hby d1_23), X1.method', Bd.returns, Value.isRef, FieldType.isReference]
        first | (intro acts; rw [hr _ acts rfl rfl rfl]) | rw [hr _ _ rfl rfl rfl]
        exact Steps.refl _
      · show Q_own_of Z p1 p2 wA wE wR h0 n0 _ T1.heap _
        rw [e1]
        exact ⟨(by simp [hc1, hc11]), N0, rfl⟩
    · refine own_go (fun _ k => XS.ifNo X0.here hx rfl (hb hby d1_11) rfl ((if0 _ _).trans (feq hc11).1) k) ?_
      show own_Fin p.tables e below _ (s₁.setTop (mkF m 14 #[.val (.int p1), .val (.int p2)] []))
      obtain ⟨T2, X2, e2, st2⟩ := getS2 X0 hx hZ hown (host := "") (Or.inl (hw _ (List.mem_of_getElem? (i := 12) rfl))) Via.refl e0 SwR (g := (mkF m 14 #[.val (.int p1), .val (.int p2)] [])) rfl (hb hby d1_14)
      refine own_go st2 ?_
      show own_Fin p.tables e below _ (T2.setTop (mkF m 17 #[.val (.int p1), .val (.int p2)] [(.ref wR)]))
      refine own_go (fun _ k => XS.goto X2.here hx rfl (pc0 := 17) (pc' := 23) rfl (hb hby d1_17) (by decide) (by decide) k) ?_
      show own_Fin p.tables e below _ (T2.setTop (mkF m 23 #[.val (.int p1), .val (.int p2)] [(.ref wR)]))
      obtain ⟨fs, hr, hrun, hended, hW, hsame⟩ := X2.leave (v := some (.ref wR)) (fun h => by rw [Bd.returns] at h; cases h)
      refine ⟨_, _, ?_, hrun, hended, _, _, rfl, ?_, ⟨_, rfl⟩, hW, hsame.mono (by decide) (by decide)⟩
      · jvm_step X2.here [X2.here.top, hx, (hb hby d1_23), X2.method', Bd.returns, Value.isRef, FieldType.isReference]
        first | (intro acts; rw [hr _ acts rfl rfl rfl]) | rw [hr _ _ rfl rfl rfl]
        exact Steps.refl _
      · show Q_own_of Z p1 p2 wA wE wR h0 n0 _ T2.heap _
        rw [e2]
        exact ⟨(by simp [hc1, hc11]), N0, rfl⟩
  · refine own_go (fun _ k => XS.ifNo X0.here hx rfl (hb hby d1_1) rfl ((if0 _ _).trans (feq hc1).1) k) ?_
    show own_Fin p.tables e below _ (s₁.setTop (mkF m 4 #[.val (.int p1), .val (.int p2)] []))
    obtain ⟨T3, X3, e3, st3⟩ := getS2 X0 hx hZ hown (host := "") (Or.inl (hw _ (List.mem_of_getElem? (i := 11) rfl))) Via.refl e0 SwE (g := (mkF m 4 #[.val (.int p1), .val (.int p2)] [])) rfl (hb hby d1_4)
    refine own_go st3 ?_
    show own_Fin p.tables e below _ (T3.setTop (mkF m 7 #[.val (.int p1), .val (.int p2)] [(.ref wE)]))
    refine own_go (fun _ k => XS.goto X3.here hx rfl (pc0 := 7) (pc' := 23) rfl (hb hby d1_7) (by decide) (by decide) k) ?_
    show own_Fin p.tables e below _ (T3.setTop (mkF m 23 #[.val (.int p1), .val (.int p2)] [(.ref wE)]))
    obtain ⟨fs, hr, hrun, hended, hW, hsame⟩ := X3.leave (v := some (.ref wE)) (fun h => by rw [Bd.returns] at h; cases h)
    refine ⟨_, _, ?_, hrun, hended, _, _, rfl, ?_, ⟨_, rfl⟩, hW, hsame.mono (by decide) (by decide)⟩
    · jvm_step X3.here [X3.here.top, hx, (hb hby d1_23), X3.method', Bd.returns, Value.isRef, FieldType.isReference]
      first | (intro acts; rw [hr _ acts rfl rfl rfl]) | rw [hr _ _ rfl rfl rfl]
      exact Steps.refl _
    · show Q_own_of Z p1 p2 wA wE wR h0 n0 _ T3.heap _
      rw [e3]
      exact ⟨(by simp [hc1]), N0, rfl⟩
def Q_own_law (Z : State) (p1 : Int32) (wA : Addr) (wE : Addr) (wR : Addr) (h0 : Heap) (n0 : Nat) (v : Option Value) (h : Heap) (L : List Loc) : Prop := v = some (.int (1 : Int32)) ∧ Fr n0 L
theorem ef_own_law (m : MethodId) (x0 : Int32) : entryFrame m #[(.int x0)] maxLocals = mkF m 0 #[.val (.int x0), .unset, .unset, .unset, .unset, .unset, .unset] [] := by first | (simp [entryFrame, mkF, argsToLocals, Value.category, maxLocals]; done) | rfl
set_option maxRecDepth 65536 in
set_option maxHeartbeats 40000000 in
theorem own_law (l : Launch) (Z : State) (a0 : Array Value) (hw : ∀ d ∈ tables_1, d.before a0 Z = true) (ws : List Jvm.Cond) (p1 : Int32) (wA : Addr) (wE : Addr) (wR : Addr) (h0 : Heap) (n0 : Nat) (Z0 : n0 ≤ h0.size) (SwA : Sta Z h0 "com/example/quietgrant/quietgrant/server/Session$State" "ACTIVE" "Lcom/example/quietgrant/quietgrant/server/Session$State;" (.ref wA)) (SwE : Sta Z h0 "com/example/quietgrant/quietgrant/server/Session$State" "EXPIRED" "Lcom/example/quietgrant/quietgrant/server/Session$State;" (.ref wE)) (SwR : Sta Z h0 "com/example/quietgrant/quietgrant/server/Session$State" "REVOKED" "Lcom/example/quietgrant/quietgrant/server/Session$State;" (.ref wR)) (neAE : wA ≠ wE) (neAR : wA ≠ wR) (neER : wE ≠ wR) :
    MetFree l x (head1 (Jvm.Cond.code x code maxLocals ret :: ws) room_1) (fun a U => a = #[(.int p1)] ∧ Z.Warmed39 U.vm ∧ U.heap = h0) (fun _ _ _ _ _ => True) (fun _ U o U' => ∃ v L, o = .returned v ∧ Q_own_law Z p1 wA wE wR h0 n0 v U'.heap L ∧ FrameEnd U o U' L room_1.cells room_1.slots) := by
  refine MetFree.of_bodySF (plainFor_of_name own_pn1) hisR ?_
  intro p e s m args below meth c s₁ Bd hml0 hP hK
  obtain ⟨rfl, hZ, hh⟩ := hP
  have hx := Bd.exec
  have hby := Bd.bytes
  have hml : c.maxLocals = 7 := hml0
  have hown : s.vm.findClass "com/example/quietgrant/quietgrant/server/StateOfPinLaw" = some m.cls := findClass_of_methodNamed Bd.named
  have hnm := (name_of_methodNamed Bd.named Bd.method).1
  have X0 : Stand p l e room_1 s m #[(.int p1)] below meth c s₁ [] 0 0 := Stand.of_body Bd
  have e0 : s₁.heap = h0 := by rw [← hh, Bd.state]; rfl
  have N0 := Fr.nil n0
  show own_Fin p.tables e below _ (s₁.setTop (entryFrame m #[(.int p1)] maxLocals))
  refine own_go (fun _ k => castTop (ef_own_law m p1) k) ?_
  show own_Fin p.tables e below _ (s₁.setTop (mkF m 0 #[.val (.int p1), .unset, .unset, .unset, .unset, .unset, .unset] []))
  refine own_go (fun _ k => XS.iloadN X0.here hx rfl (hb hby at_0) rfl k) ?_
  show own_Fin p.tables e below _ (s₁.setTop (mkF m 1 #[.val (.int p1), .unset, .unset, .unset, .unset, .unset, .unset] [(.int p1)]))
  refine own_go (fun _ k => XS.iconst X0.here hx rfl (hb hby at_1) k) ?_
  show own_Fin p.tables e below _ (s₁.setTop (mkF m 2 #[.val (.int p1), .unset, .unset, .unset, .unset, .unset, .unset] [(.int (1 : Int32)), (.int p1)]))
  refine own_go (fun _ k => XS.iand X0.here hx rfl (hb hby at_2) rfl k) ?_
  show own_Fin p.tables e below _ (s₁.setTop (mkF m 3 #[.val (.int p1), .unset, .unset, .unset, .unset, .unset, .unset] [(.int (p1 &&& (1 : Int32)))]))
  by_cases hc3 : (p1 &&& (1 : Int32)) = (0 : Int32)
  · refine own_go (fun _ k => XS.ifYes X0.here hx rfl (pc0 := 3) (pc' := 10) rfl (hb hby at_3) rfl ((if0 _ _).trans (teq hc3).1) (by decide) (by decide) k) ?_
    show own_Fin p.tables e below _ (s₁.setTop (mkF m 10 #[.val (.int p1), .unset, .unset, .unset, .unset, .unset, .unset] []))
    refine own_go (fun _ k => XS.iconst X0.here hx rfl (hb hby at_10) k) ?_
    show own_Fin p.tables e below _ (s₁.setTop (mkF m 11 #[.val (.int p1), .unset, .unset, .unset, .unset, .unset, .unset] [(.int (0 : Int32))]))
    refine own_go (fun _ k => XS.istoreN X0.here hx rfl (hb hby at_11) rfl (l' := #[.val (.int p1), .val (.int (0 : Int32)), .unset, .unset, .unset, .unset, .unset]) rfl k) ?_
    show own_Fin p.tables e below _ (s₁.setTop (mkF m 12 #[.val (.int p1), .val (.int (0 : Int32)), .unset, .unset, .unset, .unset, .unset] []))
    refine own_go (fun _ k => XS.iloadN X0.here hx rfl (hb hby at_12) rfl k) ?_
    show own_Fin p.tables e below _ (s₁.setTop (mkF m 13 #[.val (.int p1), .val (.int (0 : Int32)), .unset, .unset, .unset, .unset, .unset] [(.int p1)]))
    refine own_go (fun _ k => XS.iconst X0.here hx rfl (hb hby at_13) k) ?_
    show own_Fin p.tables e below _ (s₁.setTop (mkF m 14 #[.val (.int p1), .val (.int (0 : Int32)), .unset, .unset, .unset, .unset, .unset] [(.int (2 : Int32)), (.int p1)]))
    refine own_go (fun _ k => XS.iand X0.here hx rfl (hb hby at_14) rfl k) ?_
    show own_Fin p.tables e below _ (s₁.setTop (mkF m 15 #[.val (.int p1), .val (.int (0 : Int32)), .unset, .unset, .unset, .unset, .unset] [(.int (p1 &&& (2 : Int32)))]))
    by_cases hc15 : (p1 &&& (2 : Int32)) = (0 : Int32)
    · refine own_go (fun _ k => XS.ifYes X0.here hx rfl (pc0 := 15) (pc' := 22) rfl (hb hby at_15) rfl ((if0 _ _).trans (teq hc15).1) (by decide) (by decide) k) ?_
      show own_Fin p.tables e below _ (s₁.setTop (mkF m 22 #[.val (.int p1), .val (.int (0 : Int32)), .unset, .unset, .unset, .unset, .unset] []))
      refine own_go (fun _ k => XS.iconst X0.here hx rfl (hb hby at_22) k) ?_
      show own_Fin p.tables e below _ (s₁.setTop (mkF m 23 #[.val (.int p1), .val (.int (0 : Int32)), .unset, .unset, .unset, .unset, .unset] [(.int (0 : Int32))]))
      refine own_go (fun _ k => XS.istoreN X0.here hx rfl (hb hby at_23) rfl (l' := #[.val (.int p1), .val (.int (0 : Int32)), .val (.int (0 : Int32)), .unset, .unset, .unset, .unset]) rfl k) ?_
      show own_Fin p.tables e below _ (s₁.setTop (mkF m 24 #[.val (.int p1), .val (.int (0 : Int32)), .val (.int (0 : Int32)), .unset, .unset, .unset, .unset] []))
      refine own_go (fun _ k => XS.iloadN X0.here hx rfl (hb hby at_24) rfl k) ?_
      show own_Fin p.tables e below _ (s₁.setTop (mkF m 25 #[.val (.int p1), .val (.int (0 : Int32)), .val (.int (0 : Int32)), .unset, .unset, .unset, .unset] [(.int (0 : Int32))]))
      refine own_go (fun _ k => XS.iloadN X0.here hx rfl (hb hby at_25) rfl k) ?_
      show own_Fin p.tables e below _ (s₁.setTop (mkF m 26 #[.val (.int p1), .val (.int (0 : Int32)), .val (.int (0 : Int32)), .unset, .unset, .unset, .unset] [(.int (0 : Int32)), (.int (0 : Int32))]))
      obtain ⟨_, _, ⟨T1, L1, k1, n1⟩, -, X1, ⟨Lc1, hQ1, l1, y1, z1⟩, st1⟩ := Jvm.LawKit.callS X0 hx (y := (⟨"com/example/quietgrant/quietgrant/server/Session$State", "of", "(ZZ)Lcom/example/quietgrant/quietgrant/server/Session$State;"⟩ : MethodName)) hown (mvT hZ (hw _ (List.mem_of_getElem? (i := 0) rfl))) (mvT hZ (hw _ (List.mem_of_getElem? (i := 1) rfl))) (mvT hZ (hw _ (List.mem_of_getElem? (i := 2) rfl))) (mvT hZ (hw _ (List.mem_of_getElem? (i := 3) rfl))) (by decide) (backOf (W := 0) (own_of l Z a0 hw [] (0 : Int32) (0 : Int32) wA wE wR h0 n0 Z0 SwA SwE SwR) hZ (hw _ (List.mem_of_getElem? (i := 3) rfl)) (hw _ (List.mem_of_getElem? (i := 2) rfl)) (by decide) (by decide)) (g := (mkF m 26 #[.val (.int p1), .val (.int (0 : Int32)), .val (.int (0 : Int32)), .unset, .unset, .unset, .unset] [(.int (0 : Int32)), (.int (0 : Int32))])) rfl (by rw [hml]; rfl) (argsL := [(.int (0 : Int32)), (.int (0 : Int32))]) (rest := []) (lenOf own_pd0 rfl) rfl (by show 2 * 0 + _ ≤ _; exact Nat.le_of_eq rfl) (hb hby at_26) (fun _ _ => ⟨rfl, e0, (by decide : 0 + 0 ≤ _), (by decide : 0 + 0 ≤ _)⟩)
      dsimp only [Pt.U, Pt.locs, Pt.cells, Pt.slots] at X1 l1 y1 z1 st1 hQ1
      subst l1 y1 z1
      obtain ⟨hv1, N1q, eh1⟩ := hQ1
      obtain rfl := hv1.trans (by simp : (some (.ref (if (0 : Int32) = (0 : Int32) then (if (0 : Int32) = (0 : Int32) then wA else wR) else wE)) : Option Value) = some (.ref wA))
      have N1 := Fr.app N0 N1q
      refine own_go st1 ?_
      show own_Fin p.tables e below _ (T1.setTop (mkF m 29 #[.val (.int p1), .val (.int (0 : Int32)), .val (.int (0 : Int32)), .unset, .unset, .unset, .unset] [(.ref wA)]))
      refine own_go (fun _ k => XS.astoreN X1.here hx rfl (hb hby at_29) rfl rfl (l' := #[.val (.int p1), .val (.int (0 : Int32)), .val (.int (0 : Int32)), .val (.ref wA), .unset, .unset, .unset]) rfl k) ?_
      show own_Fin p.tables e below _ (T1.setTop (mkF m 30 #[.val (.int p1), .val (.int (0 : Int32)), .val (.int (0 : Int32)), .val (.ref wA), .unset, .unset, .unset] []))
      refine own_go (fun _ k => XS.aloadN X1.here hx rfl (hb hby at_30) rfl rfl k) ?_
      show own_Fin p.tables e below _ (T1.setTop (mkF m 31 #[.val (.int p1), .val (.int (0 : Int32)), .val (.int (0 : Int32)), .val (.ref wA), .unset, .unset, .unset] [(.ref wA)]))
      obtain ⟨T2, X2, e2, st2⟩ := getS2 X1 hx hZ hown (host := "") (Or.inl (hw _ (List.mem_of_getElem? (i := 6) rfl))) Via.refl eh1 SwE (g := (mkF m 31 #[.val (.int p1), .val (.int (0 : Int32)), .val (.int (0 : Int32)), .val (.ref wA), .unset, .unset, .unset] [(.ref wA)])) rfl (hb hby at_31)
      refine own_go st2 ?_
      show own_Fin p.tables e below _ (T2.setTop (mkF m 34 #[.val (.int p1), .val (.int (0 : Int32)), .val (.int (0 : Int32)), .val (.ref wA), .unset, .unset, .unset] [(.ref wE), (.ref wA)]))
      refine own_go (fun _ k => Jvm.RoadKit.acmp (g := (mkF m 34 #[.val (.int p1), .val (.int (0 : Int32)), .val (.int (0 : Int32)), .val (.ref wA), .unset, .unset, .unset] [(.ref wE), (.ref wA)])) X2 hx rfl rfl rfl (pc0 := 34) (pc' := 41) (same := false) rfl (hb hby at_34) rfl (decide_eq_false fun q => neAE (Value.ref.inj q)) (by decide) (by decide) k) ?_
      show own_Fin p.tables e below _ (T2.setTop (mkF m 41 #[.val (.int p1), .val (.int (0 : Int32)), .val (.int (0 : Int32)), .val (.ref wA), .unset, .unset, .unset] []))
      refine own_go (fun _ k => XS.iconst X2.here hx rfl (hb hby at_41) k) ?_
      show own_Fin p.tables e below _ (T2.setTop (mkF m 42 #[.val (.int p1), .val (.int (0 : Int32)), .val (.int (0 : Int32)), .val (.ref wA), .unset, .unset, .unset] [(.int (0 : Int32))]))
      refine own_go (fun _ k => XS.istore X2.here hx rfl (hb hby at_42) rfl (l' := #[.val (.int p1), .val (.int (0 : Int32)), .val (.int (0 : Int32)), .val (.ref wA), .val (.int (0 : Int32)), .unset, .unset]) rfl k) ?_
      show own_Fin p.tables e below _ (T2.setTop (mkF m 44 #[.val (.int p1), .val (.int (0 : Int32)), .val (.int (0 : Int32)), .val (.ref wA), .val (.int (0 : Int32)), .unset, .unset] []))
      refine own_go (fun _ k => XS.aloadN X2.here hx rfl (hb hby at_44) rfl rfl k) ?_
      show own_Fin p.tables e below _ (T2.setTop (mkF m 45 #[.val (.int p1), .val (.int (0 : Int32)), .val (.int (0 : Int32)), .val (.ref wA), .val (.int (0 : Int32)), .unset, .unset] [(.ref wA)]))
      obtain ⟨T3, X3, e3, st3⟩ := getS2 X2 hx hZ hown (host := "") (Or.inl (hw _ (List.mem_of_getElem? (i := 8) rfl))) Via.refl e2 SwR (g := (mkF m 45 #[.val (.int p1), .val (.int (0 : Int32)), .val (.int (0 : Int32)), .val (.ref wA), .val (.int (0 : Int32)), .unset, .unset] [(.ref wA)])) rfl (hb hby at_45)
      refine own_go st3 ?_
      show own_Fin p.tables e below _ (T3.setTop (mkF m 48 #[.val (.int p1), .val (.int (0 : Int32)), .val (.int (0 : Int32)), .val (.ref wA), .val (.int (0 : Int32)), .unset, .unset] [(.ref wR), (.ref wA)]))
      refine own_go (fun _ k => Jvm.RoadKit.acmp (g := (mkF m 48 #[.val (.int p1), .val (.int (0 : Int32)), .val (.int (0 : Int32)), .val (.ref wA), .val (.int (0 : Int32)), .unset, .unset] [(.ref wR), (.ref wA)])) X3 hx rfl rfl rfl (pc0 := 48) (pc' := 55) (same := false) rfl (hb hby at_48) rfl (decide_eq_false fun q => neAR (Value.ref.inj q)) (by decide) (by decide) k) ?_
      show own_Fin p.tables e below _ (T3.setTop (mkF m 55 #[.val (.int p1), .val (.int (0 : Int32)), .val (.int (0 : Int32)), .val (.ref wA), .val (.int (0 : Int32)), .unset, .unset] []))
      refine own_go (fun _ k => XS.iconst X3.here hx rfl (hb hby at_55) k) ?_
      show own_Fin p.tables e below _ (T3.setTop (mkF m 56 #[.val (.int p1), .val (.int (0 : Int32)), .val (.int (0 : Int32)), .val (.ref wA), .val (.int (0 : Int32)), .unset, .unset] [(.int (0 : Int32))]))
      refine own_go (fun _ k => XS.istore X3.here hx rfl (hb hby at_56) rfl (l' := #[.val (.int p1), .val (.int (0 : Int32)), .val (.int (0 : Int32)), .val (.ref wA), .val (.int (0 : Int32)), .val (.int (0 : Int32)), .unset]) rfl k) ?_
      show own_Fin p.tables e below _ (T3.setTop (mkF m 58 #[.val (.int p1), .val (.int (0 : Int32)), .val (.int (0 : Int32)), .val (.ref wA), .val (.int (0 : Int32)), .val (.int (0 : Int32)), .unset] []))
      refine own_go (fun _ k => XS.aloadN X3.here hx rfl (hb hby at_58) rfl rfl k) ?_
      show own_Fin p.tables e below _ (T3.setTop (mkF m 59 #[.val (.int p1), .val (.int (0 : Int32)), .val (.int (0 : Int32)), .val (.ref wA), .val (.int (0 : Int32)), .val (.int (0 : Int32)), .unset] [(.ref wA)]))
      obtain ⟨T4, X4, e4, st4⟩ := getS2 X3 hx hZ hown (host := "") (Or.inl (hw _ (List.mem_of_getElem? (i := 10) rfl))) Via.refl e3 SwA (g := (mkF m 59 #[.val (.int p1), .val (.int (0 : Int32)), .val (.int (0 : Int32)), .val (.ref wA), .val (.int (0 : Int32)), .val (.int (0 : Int32)), .unset] [(.ref wA)])) rfl (hb hby at_59)
      refine own_go st4 ?_
      show own_Fin p.tables e below _ (T4.setTop (mkF m 62 #[.val (.int p1), .val (.int (0 : Int32)), .val (.int (0 : Int32)), .val (.ref wA), .val (.int (0 : Int32)), .val (.int (0 : Int32)), .unset] [(.ref wA), (.ref wA)]))
      refine own_go (fun _ k => Jvm.RoadKit.acmp (g := (mkF m 62 #[.val (.int p1), .val (.int (0 : Int32)), .val (.int (0 : Int32)), .val (.ref wA), .val (.int (0 : Int32)), .val (.int (0 : Int32)), .unset] [(.ref wA), (.ref wA)])) X4 hx rfl rfl rfl (pc0 := 62) (pc' := 65) (same := true) rfl (hb hby at_62) rfl (decide_eq_true rfl) (by decide) (by decide) k) ?_
      show own_Fin p.tables e below _ (T4.setTop (mkF m 65 #[.val (.int p1), .val (.int (0 : Int32)), .val (.int (0 : Int32)), .val (.ref wA), .val (.int (0 : Int32)), .val (.int (0 : Int32)), .unset] []))
      refine own_go (fun _ k => XS.iconst X4.here hx rfl (hb hby at_65) k) ?_
      show own_Fin p.tables e below _ (T4.setTop (mkF m 66 #[.val (.int p1), .val (.int (0 : Int32)), .val (.int (0 : Int32)), .val (.ref wA), .val (.int (0 : Int32)), .val (.int (0 : Int32)), .unset] [(.int (1 : Int32))]))
      refine own_go (fun _ k => XS.goto X4.here hx rfl (pc0 := 66) (pc' := 70) rfl (hb hby at_66) (by decide) (by decide) k) ?_
      show own_Fin p.tables e below _ (T4.setTop (mkF m 70 #[.val (.int p1), .val (.int (0 : Int32)), .val (.int (0 : Int32)), .val (.ref wA), .val (.int (0 : Int32)), .val (.int (0 : Int32)), .unset] [(.int (1 : Int32))]))
      refine own_go (fun _ k => XS.istore X4.here hx rfl (hb hby at_70) rfl (l' := #[.val (.int p1), .val (.int (0 : Int32)), .val (.int (0 : Int32)), .val (.ref wA), .val (.int (0 : Int32)), .val (.int (0 : Int32)), .val (.int (1 : Int32))]) rfl k) ?_
      show own_Fin p.tables e below _ (T4.setTop (mkF m 72 #[.val (.int p1), .val (.int (0 : Int32)), .val (.int (0 : Int32)), .val (.ref wA), .val (.int (0 : Int32)), .val (.int (0 : Int32)), .val (.int (1 : Int32))] []))
      refine own_go (fun _ k => XS.iload X4.here hx rfl (hb hby at_72) rfl k) ?_
      show own_Fin p.tables e below _ (T4.setTop (mkF m 74 #[.val (.int p1), .val (.int (0 : Int32)), .val (.int (0 : Int32)), .val (.ref wA), .val (.int (0 : Int32)), .val (.int (0 : Int32)), .val (.int (1 : Int32))] [(.int (0 : Int32))]))
      refine own_go (fun _ k => XS.iloadN X4.here hx rfl (hb hby at_74) rfl k) ?_
      show own_Fin p.tables e below _ (T4.setTop (mkF m 75 #[.val (.int p1), .val (.int (0 : Int32)), .val (.int (0 : Int32)), .val (.ref wA), .val (.int (0 : Int32)), .val (.int (0 : Int32)), .val (.int (1 : Int32))] [(.int (0 : Int32)), (.int (0 : Int32))]))
      refine own_go (fun _ k => XS.icmpNo X4.here hx rfl (hb hby at_75) rfl (teq (by decide : ((0 : Int32) = (0 : Int32)))).2 k) ?_
      show own_Fin p.tables e below _ (T4.setTop (mkF m 78 #[.val (.int p1), .val (.int (0 : Int32)), .val (.int (0 : Int32)), .val (.ref wA), .val (.int (0 : Int32)), .val (.int (0 : Int32)), .val (.int (1 : Int32))] []))
      refine own_go (fun _ k => XS.iload X4.here hx rfl (hb hby at_78) rfl k) ?_
      show own_Fin p.tables e below _ (T4.setTop (mkF m 80 #[.val (.int p1), .val (.int (0 : Int32)), .val (.int (0 : Int32)), .val (.ref wA), .val (.int (0 : Int32)), .val (.int (0 : Int32)), .val (.int (1 : Int32))] [(.int (0 : Int32))]))
      refine own_go (fun _ k => XS.iloadN X4.here hx rfl (hb hby at_80) rfl k) ?_
      show own_Fin p.tables e below _ (T4.setTop (mkF m 81 #[.val (.int p1), .val (.int (0 : Int32)), .val (.int (0 : Int32)), .val (.ref wA), .val (.int (0 : Int32)), .val (.int (0 : Int32)), .val (.int (1 : Int32))] [(.int (0 : Int32)), (.int (0 : Int32))]))
      refine own_go (fun _ k => XS.ifYes X4.here hx rfl (pc0 := 81) (pc' := 92) rfl (hb hby at_81) rfl ((if0 _ _).trans (teq (by decide : ((0 : Int32) = (0 : Int32)))).1) (by decide) (by decide) k) ?_
      show own_Fin p.tables e below _ (T4.setTop (mkF m 92 #[.val (.int p1), .val (.int (0 : Int32)), .val (.int (0 : Int32)), .val (.ref wA), .val (.int (0 : Int32)), .val (.int (0 : Int32)), .val (.int (1 : Int32))] [(.int (0 : Int32))]))
      refine own_go (fun _ k => XS.iconst X4.here hx rfl (hb hby at_92) k) ?_
      show own_Fin p.tables e below _ (T4.setTop (mkF m 93 #[.val (.int p1), .val (.int (0 : Int32)), .val (.int (0 : Int32)), .val (.ref wA), .val (.int (0 : Int32)), .val (.int (0 : Int32)), .val (.int (1 : Int32))] [(.int (0 : Int32)), (.int (0 : Int32))]))
      refine own_go (fun _ k => XS.icmpNo X4.here hx rfl (hb hby at_93) rfl (teq (by decide : ((0 : Int32) = (0 : Int32)))).2 k) ?_
      show own_Fin p.tables e below _ (T4.setTop (mkF m 96 #[.val (.int p1), .val (.int (0 : Int32)), .val (.int (0 : Int32)), .val (.ref wA), .val (.int (0 : Int32)), .val (.int (0 : Int32)), .val (.int (1 : Int32))] []))
      refine own_go (fun _ k => XS.iload X4.here hx rfl (hb hby at_96) rfl k) ?_
      show own_Fin p.tables e below _ (T4.setTop (mkF m 98 #[.val (.int p1), .val (.int (0 : Int32)), .val (.int (0 : Int32)), .val (.ref wA), .val (.int (0 : Int32)), .val (.int (0 : Int32)), .val (.int (1 : Int32))] [(.int (1 : Int32))]))
      refine own_go (fun _ k => XS.iloadN X4.here hx rfl (hb hby at_98) rfl k) ?_
      show own_Fin p.tables e below _ (T4.setTop (mkF m 99 #[.val (.int p1), .val (.int (0 : Int32)), .val (.int (0 : Int32)), .val (.ref wA), .val (.int (0 : Int32)), .val (.int (0 : Int32)), .val (.int (1 : Int32))] [(.int (0 : Int32)), (.int (1 : Int32))]))
      refine own_go (fun _ k => XS.ifNo X4.here hx rfl (hb hby at_99) rfl ((if0 _ _).trans (teq (by decide : ((0 : Int32) = (0 : Int32)))).2) k) ?_
      show own_Fin p.tables e below _ (T4.setTop (mkF m 102 #[.val (.int p1), .val (.int (0 : Int32)), .val (.int (0 : Int32)), .val (.ref wA), .val (.int (0 : Int32)), .val (.int (0 : Int32)), .val (.int (1 : Int32))] [(.int (1 : Int32))]))
      refine own_go (fun _ k => XS.iloadN X4.here hx rfl (hb hby at_102) rfl k) ?_
      show own_Fin p.tables e below _ (T4.setTop (mkF m 103 #[.val (.int p1), .val (.int (0 : Int32)), .val (.int (0 : Int32)), .val (.ref wA), .val (.int (0 : Int32)), .val (.int (0 : Int32)), .val (.int (1 : Int32))] [(.int (0 : Int32)), (.int (1 : Int32))]))
      refine own_go (fun _ k => XS.ifNo X4.here hx rfl (hb hby at_103) rfl ((if0 _ _).trans (teq (by decide : ((0 : Int32) = (0 : Int32)))).2) k) ?_
      show own_Fin p.tables e below _ (T4.setTop (mkF m 106 #[.val (.int p1), .val (.int (0 : Int32)), .val (.int (0 : Int32)), .val (.ref wA), .val (.int (0 : Int32)), .val (.int (0 : Int32)), .val (.int (1 : Int32))] [(.int (1 : Int32))]))
      refine own_go (fun _ k => XS.iconst X4.here hx rfl (hb hby at_106) k) ?_
      show own_Fin p.tables e below _ (T4.setTop (mkF m 107 #[.val (.int p1), .val (.int (0 : Int32)), .val (.int (0 : Int32)), .val (.ref wA), .val (.int (0 : Int32)), .val (.int (0 : Int32)), .val (.int (1 : Int32))] [(.int (1 : Int32)), (.int (1 : Int32))]))
      refine own_go (fun _ k => XS.goto X4.here hx rfl (pc0 := 107) (pc' := 111) rfl (hb hby at_107) (by decide) (by decide) k) ?_
      show own_Fin p.tables e below _ (T4.setTop (mkF m 111 #[.val (.int p1), .val (.int (0 : Int32)), .val (.int (0 : Int32)), .val (.ref wA), .val (.int (0 : Int32)), .val (.int (0 : Int32)), .val (.int (1 : Int32))] [(.int (1 : Int32)), (.int (1 : Int32))]))
      refine own_go (fun _ k => XS.icmpNo X4.here hx rfl (hb hby at_111) rfl (teq (by decide : ((1 : Int32) = (1 : Int32)))).2 k) ?_
      show own_Fin p.tables e below _ (T4.setTop (mkF m 114 #[.val (.int p1), .val (.int (0 : Int32)), .val (.int (0 : Int32)), .val (.ref wA), .val (.int (0 : Int32)), .val (.int (0 : Int32)), .val (.int (1 : Int32))] []))
      refine own_go (fun _ k => XS.iconst X4.here hx rfl (hb hby at_114) k) ?_
      show own_Fin p.tables e below _ (T4.setTop (mkF m 115 #[.val (.int p1), .val (.int (0 : Int32)), .val (.int (0 : Int32)), .val (.ref wA), .val (.int (0 : Int32)), .val (.int (0 : Int32)), .val (.int (1 : Int32))] [(.int (1 : Int32))]))
      refine own_go (fun _ k => XS.goto X4.here hx rfl (pc0 := 115) (pc' := 119) rfl (hb hby at_115) (by decide) (by decide) k) ?_
      show own_Fin p.tables e below _ (T4.setTop (mkF m 119 #[.val (.int p1), .val (.int (0 : Int32)), .val (.int (0 : Int32)), .val (.ref wA), .val (.int (0 : Int32)), .val (.int (0 : Int32)), .val (.int (1 : Int32))] [(.int (1 : Int32))]))
      obtain ⟨fs, hr, hrun, hended, hW, hsame⟩ := X4.leave (v := some (.int (1 : Int32))) (fun h => by rw [Bd.returns] at h; cases h)
      refine ⟨_, _, ?_, hrun, hended, _, _, rfl, ?_, ⟨_, rfl⟩, hW, hsame.mono (by decide) (by decide)⟩
      · exact retN X4 hx (t := .boolean) Bd.returns (by simp) (hb hby at_119) hr
      · show Q_own_law Z p1 wA wE wR h0 n0 _ T4.heap _
        rw [e4]
        exact ⟨rfl, N1⟩
    · refine own_go (fun _ k => XS.ifNo X0.here hx rfl (hb hby at_15) rfl ((if0 _ _).trans (feq hc15).1) k) ?_
      show own_Fin p.tables e below _ (s₁.setTop (mkF m 18 #[.val (.int p1), .val (.int (0 : Int32)), .unset, .unset, .unset, .unset, .unset] []))
      refine own_go (fun _ k => XS.iconst X0.here hx rfl (hb hby at_18) k) ?_
      show own_Fin p.tables e below _ (s₁.setTop (mkF m 19 #[.val (.int p1), .val (.int (0 : Int32)), .unset, .unset, .unset, .unset, .unset] [(.int (1 : Int32))]))
      refine own_go (fun _ k => XS.goto X0.here hx rfl (pc0 := 19) (pc' := 23) rfl (hb hby at_19) (by decide) (by decide) k) ?_
      show own_Fin p.tables e below _ (s₁.setTop (mkF m 23 #[.val (.int p1), .val (.int (0 : Int32)), .unset, .unset, .unset, .unset, .unset] [(.int (1 : Int32))]))
      refine own_go (fun _ k => XS.istoreN X0.here hx rfl (hb hby at_23) rfl (l' := #[.val (.int p1), .val (.int (0 : Int32)), .val (.int (1 : Int32)), .unset, .unset, .unset, .unset]) rfl k) ?_
      show own_Fin p.tables e below _ (s₁.setTop (mkF m 24 #[.val (.int p1), .val (.int (0 : Int32)), .val (.int (1 : Int32)), .unset, .unset, .unset, .unset] []))
      refine own_go (fun _ k => XS.iloadN X0.here hx rfl (hb hby at_24) rfl k) ?_
      show own_Fin p.tables e below _ (s₁.setTop (mkF m 25 #[.val (.int p1), .val (.int (0 : Int32)), .val (.int (1 : Int32)), .unset, .unset, .unset, .unset] [(.int (0 : Int32))]))
      refine own_go (fun _ k => XS.iloadN X0.here hx rfl (hb hby at_25) rfl k) ?_
      show own_Fin p.tables e below _ (s₁.setTop (mkF m 26 #[.val (.int p1), .val (.int (0 : Int32)), .val (.int (1 : Int32)), .unset, .unset, .unset, .unset] [(.int (1 : Int32)), (.int (0 : Int32))]))
      obtain ⟨_, _, ⟨T5, L5, k5, n5⟩, -, X5, ⟨Lc5, hQ5, l5, y5, z5⟩, st5⟩ := Jvm.LawKit.callS X0 hx (y := (⟨"com/example/quietgrant/quietgrant/server/Session$State", "of", "(ZZ)Lcom/example/quietgrant/quietgrant/server/Session$State;"⟩ : MethodName)) hown (mvT hZ (hw _ (List.mem_of_getElem? (i := 0) rfl))) (mvT hZ (hw _ (List.mem_of_getElem? (i := 1) rfl))) (mvT hZ (hw _ (List.mem_of_getElem? (i := 2) rfl))) (mvT hZ (hw _ (List.mem_of_getElem? (i := 3) rfl))) (by decide) (backOf (W := 0) (own_of l Z a0 hw [] (0 : Int32) (1 : Int32) wA wE wR h0 n0 Z0 SwA SwE SwR) hZ (hw _ (List.mem_of_getElem? (i := 3) rfl)) (hw _ (List.mem_of_getElem? (i := 2) rfl)) (by decide) (by decide)) (g := (mkF m 26 #[.val (.int p1), .val (.int (0 : Int32)), .val (.int (1 : Int32)), .unset, .unset, .unset, .unset] [(.int (1 : Int32)), (.int (0 : Int32))])) rfl (by rw [hml]; rfl) (argsL := [(.int (0 : Int32)), (.int (1 : Int32))]) (rest := []) (lenOf own_pd0 rfl) rfl (by show 2 * 0 + _ ≤ _; exact Nat.le_of_eq rfl) (hb hby at_26) (fun _ _ => ⟨rfl, e0, (by decide : 0 + 0 ≤ _), (by decide : 0 + 0 ≤ _)⟩)
      dsimp only [Pt.U, Pt.locs, Pt.cells, Pt.slots] at X5 l5 y5 z5 st5 hQ5
      subst l5 y5 z5
      obtain ⟨hv5, N5q, eh5⟩ := hQ5
      obtain rfl := hv5.trans (by simp : (some (.ref (if (0 : Int32) = (0 : Int32) then (if (1 : Int32) = (0 : Int32) then wA else wR) else wE)) : Option Value) = some (.ref wR))
      have N5 := Fr.app N0 N5q
      refine own_go st5 ?_
      show own_Fin p.tables e below _ (T5.setTop (mkF m 29 #[.val (.int p1), .val (.int (0 : Int32)), .val (.int (1 : Int32)), .unset, .unset, .unset, .unset] [(.ref wR)]))
      refine own_go (fun _ k => XS.astoreN X5.here hx rfl (hb hby at_29) rfl rfl (l' := #[.val (.int p1), .val (.int (0 : Int32)), .val (.int (1 : Int32)), .val (.ref wR), .unset, .unset, .unset]) rfl k) ?_
      show own_Fin p.tables e below _ (T5.setTop (mkF m 30 #[.val (.int p1), .val (.int (0 : Int32)), .val (.int (1 : Int32)), .val (.ref wR), .unset, .unset, .unset] []))
      refine own_go (fun _ k => XS.aloadN X5.here hx rfl (hb hby at_30) rfl rfl k) ?_
      show own_Fin p.tables e below _ (T5.setTop (mkF m 31 #[.val (.int p1), .val (.int (0 : Int32)), .val (.int (1 : Int32)), .val (.ref wR), .unset, .unset, .unset] [(.ref wR)]))
      obtain ⟨T6, X6, e6, st6⟩ := getS2 X5 hx hZ hown (host := "") (Or.inl (hw _ (List.mem_of_getElem? (i := 6) rfl))) Via.refl eh5 SwE (g := (mkF m 31 #[.val (.int p1), .val (.int (0 : Int32)), .val (.int (1 : Int32)), .val (.ref wR), .unset, .unset, .unset] [(.ref wR)])) rfl (hb hby at_31)
      refine own_go st6 ?_
      show own_Fin p.tables e below _ (T6.setTop (mkF m 34 #[.val (.int p1), .val (.int (0 : Int32)), .val (.int (1 : Int32)), .val (.ref wR), .unset, .unset, .unset] [(.ref wE), (.ref wR)]))
      refine own_go (fun _ k => Jvm.RoadKit.acmp (g := (mkF m 34 #[.val (.int p1), .val (.int (0 : Int32)), .val (.int (1 : Int32)), .val (.ref wR), .unset, .unset, .unset] [(.ref wE), (.ref wR)])) X6 hx rfl rfl rfl (pc0 := 34) (pc' := 41) (same := false) rfl (hb hby at_34) rfl (decide_eq_false fun q => (Ne.symm neER) (Value.ref.inj q)) (by decide) (by decide) k) ?_
      show own_Fin p.tables e below _ (T6.setTop (mkF m 41 #[.val (.int p1), .val (.int (0 : Int32)), .val (.int (1 : Int32)), .val (.ref wR), .unset, .unset, .unset] []))
      refine own_go (fun _ k => XS.iconst X6.here hx rfl (hb hby at_41) k) ?_
      show own_Fin p.tables e below _ (T6.setTop (mkF m 42 #[.val (.int p1), .val (.int (0 : Int32)), .val (.int (1 : Int32)), .val (.ref wR), .unset, .unset, .unset] [(.int (0 : Int32))]))
      refine own_go (fun _ k => XS.istore X6.here hx rfl (hb hby at_42) rfl (l' := #[.val (.int p1), .val (.int (0 : Int32)), .val (.int (1 : Int32)), .val (.ref wR), .val (.int (0 : Int32)), .unset, .unset]) rfl k) ?_
      show own_Fin p.tables e below _ (T6.setTop (mkF m 44 #[.val (.int p1), .val (.int (0 : Int32)), .val (.int (1 : Int32)), .val (.ref wR), .val (.int (0 : Int32)), .unset, .unset] []))
      refine own_go (fun _ k => XS.aloadN X6.here hx rfl (hb hby at_44) rfl rfl k) ?_
      show own_Fin p.tables e below _ (T6.setTop (mkF m 45 #[.val (.int p1), .val (.int (0 : Int32)), .val (.int (1 : Int32)), .val (.ref wR), .val (.int (0 : Int32)), .unset, .unset] [(.ref wR)]))
      obtain ⟨T7, X7, e7, st7⟩ := getS2 X6 hx hZ hown (host := "") (Or.inl (hw _ (List.mem_of_getElem? (i := 8) rfl))) Via.refl e6 SwR (g := (mkF m 45 #[.val (.int p1), .val (.int (0 : Int32)), .val (.int (1 : Int32)), .val (.ref wR), .val (.int (0 : Int32)), .unset, .unset] [(.ref wR)])) rfl (hb hby at_45)
      refine own_go st7 ?_
      show own_Fin p.tables e below _ (T7.setTop (mkF m 48 #[.val (.int p1), .val (.int (0 : Int32)), .val (.int (1 : Int32)), .val (.ref wR), .val (.int (0 : Int32)), .unset, .unset] [(.ref wR), (.ref wR)]))
      refine own_go (fun _ k => Jvm.RoadKit.acmp (g := (mkF m 48 #[.val (.int p1), .val (.int (0 : Int32)), .val (.int (1 : Int32)), .val (.ref wR), .val (.int (0 : Int32)), .unset, .unset] [(.ref wR), (.ref wR)])) X7 hx rfl rfl rfl (pc0 := 48) (pc' := 51) (same := true) rfl (hb hby at_48) rfl (decide_eq_true rfl) (by decide) (by decide) k) ?_
      show own_Fin p.tables e below _ (T7.setTop (mkF m 51 #[.val (.int p1), .val (.int (0 : Int32)), .val (.int (1 : Int32)), .val (.ref wR), .val (.int (0 : Int32)), .unset, .unset] []))
      refine own_go (fun _ k => XS.iconst X7.here hx rfl (hb hby at_51) k) ?_
      show own_Fin p.tables e below _ (T7.setTop (mkF m 52 #[.val (.int p1), .val (.int (0 : Int32)), .val (.int (1 : Int32)), .val (.ref wR), .val (.int (0 : Int32)), .unset, .unset] [(.int (1 : Int32))]))
      refine own_go (fun _ k => XS.goto X7.here hx rfl (pc0 := 52) (pc' := 56) rfl (hb hby at_52) (by decide) (by decide) k) ?_
      show own_Fin p.tables e below _ (T7.setTop (mkF m 56 #[.val (.int p1), .val (.int (0 : Int32)), .val (.int (1 : Int32)), .val (.ref wR), .val (.int (0 : Int32)), .unset, .unset] [(.int (1 : Int32))]))
      refine own_go (fun _ k => XS.istore X7.here hx rfl (hb hby at_56) rfl (l' := #[.val (.int p1), .val (.int (0 : Int32)), .val (.int (1 : Int32)), .val (.ref wR), .val (.int (0 : Int32)), .val (.int (1 : Int32)), .unset]) rfl k) ?_
      show own_Fin p.tables e below _ (T7.setTop (mkF m 58 #[.val (.int p1), .val (.int (0 : Int32)), .val (.int (1 : Int32)), .val (.ref wR), .val (.int (0 : Int32)), .val (.int (1 : Int32)), .unset] []))
      refine own_go (fun _ k => XS.aloadN X7.here hx rfl (hb hby at_58) rfl rfl k) ?_
      show own_Fin p.tables e below _ (T7.setTop (mkF m 59 #[.val (.int p1), .val (.int (0 : Int32)), .val (.int (1 : Int32)), .val (.ref wR), .val (.int (0 : Int32)), .val (.int (1 : Int32)), .unset] [(.ref wR)]))
      obtain ⟨T8, X8, e8, st8⟩ := getS2 X7 hx hZ hown (host := "") (Or.inl (hw _ (List.mem_of_getElem? (i := 10) rfl))) Via.refl e7 SwA (g := (mkF m 59 #[.val (.int p1), .val (.int (0 : Int32)), .val (.int (1 : Int32)), .val (.ref wR), .val (.int (0 : Int32)), .val (.int (1 : Int32)), .unset] [(.ref wR)])) rfl (hb hby at_59)
      refine own_go st8 ?_
      show own_Fin p.tables e below _ (T8.setTop (mkF m 62 #[.val (.int p1), .val (.int (0 : Int32)), .val (.int (1 : Int32)), .val (.ref wR), .val (.int (0 : Int32)), .val (.int (1 : Int32)), .unset] [(.ref wA), (.ref wR)]))
      refine own_go (fun _ k => Jvm.RoadKit.acmp (g := (mkF m 62 #[.val (.int p1), .val (.int (0 : Int32)), .val (.int (1 : Int32)), .val (.ref wR), .val (.int (0 : Int32)), .val (.int (1 : Int32)), .unset] [(.ref wA), (.ref wR)])) X8 hx rfl rfl rfl (pc0 := 62) (pc' := 69) (same := false) rfl (hb hby at_62) rfl (decide_eq_false fun q => (Ne.symm neAR) (Value.ref.inj q)) (by decide) (by decide) k) ?_
      show own_Fin p.tables e below _ (T8.setTop (mkF m 69 #[.val (.int p1), .val (.int (0 : Int32)), .val (.int (1 : Int32)), .val (.ref wR), .val (.int (0 : Int32)), .val (.int (1 : Int32)), .unset] []))
      refine own_go (fun _ k => XS.iconst X8.here hx rfl (hb hby at_69) k) ?_
      show own_Fin p.tables e below _ (T8.setTop (mkF m 70 #[.val (.int p1), .val (.int (0 : Int32)), .val (.int (1 : Int32)), .val (.ref wR), .val (.int (0 : Int32)), .val (.int (1 : Int32)), .unset] [(.int (0 : Int32))]))
      refine own_go (fun _ k => XS.istore X8.here hx rfl (hb hby at_70) rfl (l' := #[.val (.int p1), .val (.int (0 : Int32)), .val (.int (1 : Int32)), .val (.ref wR), .val (.int (0 : Int32)), .val (.int (1 : Int32)), .val (.int (0 : Int32))]) rfl k) ?_
      show own_Fin p.tables e below _ (T8.setTop (mkF m 72 #[.val (.int p1), .val (.int (0 : Int32)), .val (.int (1 : Int32)), .val (.ref wR), .val (.int (0 : Int32)), .val (.int (1 : Int32)), .val (.int (0 : Int32))] []))
      refine own_go (fun _ k => XS.iload X8.here hx rfl (hb hby at_72) rfl k) ?_
      show own_Fin p.tables e below _ (T8.setTop (mkF m 74 #[.val (.int p1), .val (.int (0 : Int32)), .val (.int (1 : Int32)), .val (.ref wR), .val (.int (0 : Int32)), .val (.int (1 : Int32)), .val (.int (0 : Int32))] [(.int (0 : Int32))]))
      refine own_go (fun _ k => XS.iloadN X8.here hx rfl (hb hby at_74) rfl k) ?_
      show own_Fin p.tables e below _ (T8.setTop (mkF m 75 #[.val (.int p1), .val (.int (0 : Int32)), .val (.int (1 : Int32)), .val (.ref wR), .val (.int (0 : Int32)), .val (.int (1 : Int32)), .val (.int (0 : Int32))] [(.int (0 : Int32)), (.int (0 : Int32))]))
      refine own_go (fun _ k => XS.icmpNo X8.here hx rfl (hb hby at_75) rfl (teq (by decide : ((0 : Int32) = (0 : Int32)))).2 k) ?_
      show own_Fin p.tables e below _ (T8.setTop (mkF m 78 #[.val (.int p1), .val (.int (0 : Int32)), .val (.int (1 : Int32)), .val (.ref wR), .val (.int (0 : Int32)), .val (.int (1 : Int32)), .val (.int (0 : Int32))] []))
      refine own_go (fun _ k => XS.iload X8.here hx rfl (hb hby at_78) rfl k) ?_
      show own_Fin p.tables e below _ (T8.setTop (mkF m 80 #[.val (.int p1), .val (.int (0 : Int32)), .val (.int (1 : Int32)), .val (.ref wR), .val (.int (0 : Int32)), .val (.int (1 : Int32)), .val (.int (0 : Int32))] [(.int (1 : Int32))]))
      refine own_go (fun _ k => XS.iloadN X8.here hx rfl (hb hby at_80) rfl k) ?_
      show own_Fin p.tables e below _ (T8.setTop (mkF m 81 #[.val (.int p1), .val (.int (0 : Int32)), .val (.int (1 : Int32)), .val (.ref wR), .val (.int (0 : Int32)), .val (.int (1 : Int32)), .val (.int (0 : Int32))] [(.int (1 : Int32)), (.int (1 : Int32))]))
      refine own_go (fun _ k => XS.ifNo X8.here hx rfl (hb hby at_81) rfl ((if0 _ _).trans (feq (by decide : ¬ ((1 : Int32) = (0 : Int32)))).1) k) ?_
      show own_Fin p.tables e below _ (T8.setTop (mkF m 84 #[.val (.int p1), .val (.int (0 : Int32)), .val (.int (1 : Int32)), .val (.ref wR), .val (.int (0 : Int32)), .val (.int (1 : Int32)), .val (.int (0 : Int32))] [(.int (1 : Int32))]))
      refine own_go (fun _ k => XS.iloadN X8.here hx rfl (hb hby at_84) rfl k) ?_
      show own_Fin p.tables e below _ (T8.setTop (mkF m 85 #[.val (.int p1), .val (.int (0 : Int32)), .val (.int (1 : Int32)), .val (.ref wR), .val (.int (0 : Int32)), .val (.int (1 : Int32)), .val (.int (0 : Int32))] [(.int (0 : Int32)), (.int (1 : Int32))]))
      refine own_go (fun _ k => XS.ifNo X8.here hx rfl (hb hby at_85) rfl ((if0 _ _).trans (teq (by decide : ((0 : Int32) = (0 : Int32)))).2) k) ?_
      show own_Fin p.tables e below _ (T8.setTop (mkF m 88 #[.val (.int p1), .val (.int (0 : Int32)), .val (.int (1 : Int32)), .val (.ref wR), .val (.int (0 : Int32)), .val (.int (1 : Int32)), .val (.int (0 : Int32))] [(.int (1 : Int32))]))
      refine own_go (fun _ k => XS.iconst X8.here hx rfl (hb hby at_88) k) ?_
      show own_Fin p.tables e below _ (T8.setTop (mkF m 89 #[.val (.int p1), .val (.int (0 : Int32)), .val (.int (1 : Int32)), .val (.ref wR), .val (.int (0 : Int32)), .val (.int (1 : Int32)), .val (.int (0 : Int32))] [(.int (1 : Int32)), (.int (1 : Int32))]))
      refine own_go (fun _ k => XS.goto X8.here hx rfl (pc0 := 89) (pc' := 93) rfl (hb hby at_89) (by decide) (by decide) k) ?_
      show own_Fin p.tables e below _ (T8.setTop (mkF m 93 #[.val (.int p1), .val (.int (0 : Int32)), .val (.int (1 : Int32)), .val (.ref wR), .val (.int (0 : Int32)), .val (.int (1 : Int32)), .val (.int (0 : Int32))] [(.int (1 : Int32)), (.int (1 : Int32))]))
      refine own_go (fun _ k => XS.icmpNo X8.here hx rfl (hb hby at_93) rfl (teq (by decide : ((1 : Int32) = (1 : Int32)))).2 k) ?_
      show own_Fin p.tables e below _ (T8.setTop (mkF m 96 #[.val (.int p1), .val (.int (0 : Int32)), .val (.int (1 : Int32)), .val (.ref wR), .val (.int (0 : Int32)), .val (.int (1 : Int32)), .val (.int (0 : Int32))] []))
      refine own_go (fun _ k => XS.iload X8.here hx rfl (hb hby at_96) rfl k) ?_
      show own_Fin p.tables e below _ (T8.setTop (mkF m 98 #[.val (.int p1), .val (.int (0 : Int32)), .val (.int (1 : Int32)), .val (.ref wR), .val (.int (0 : Int32)), .val (.int (1 : Int32)), .val (.int (0 : Int32))] [(.int (0 : Int32))]))
      refine own_go (fun _ k => XS.iloadN X8.here hx rfl (hb hby at_98) rfl k) ?_
      show own_Fin p.tables e below _ (T8.setTop (mkF m 99 #[.val (.int p1), .val (.int (0 : Int32)), .val (.int (1 : Int32)), .val (.ref wR), .val (.int (0 : Int32)), .val (.int (1 : Int32)), .val (.int (0 : Int32))] [(.int (1 : Int32)), (.int (0 : Int32))]))
      refine own_go (fun _ k => XS.ifYes X8.here hx rfl (pc0 := 99) (pc' := 110) rfl (hb hby at_99) rfl ((if0 _ _).trans (feq (by decide : ¬ ((1 : Int32) = (0 : Int32)))).2) (by decide) (by decide) k) ?_
      show own_Fin p.tables e below _ (T8.setTop (mkF m 110 #[.val (.int p1), .val (.int (0 : Int32)), .val (.int (1 : Int32)), .val (.ref wR), .val (.int (0 : Int32)), .val (.int (1 : Int32)), .val (.int (0 : Int32))] [(.int (0 : Int32))]))
      refine own_go (fun _ k => XS.iconst X8.here hx rfl (hb hby at_110) k) ?_
      show own_Fin p.tables e below _ (T8.setTop (mkF m 111 #[.val (.int p1), .val (.int (0 : Int32)), .val (.int (1 : Int32)), .val (.ref wR), .val (.int (0 : Int32)), .val (.int (1 : Int32)), .val (.int (0 : Int32))] [(.int (0 : Int32)), (.int (0 : Int32))]))
      refine own_go (fun _ k => XS.icmpNo X8.here hx rfl (hb hby at_111) rfl (teq (by decide : ((0 : Int32) = (0 : Int32)))).2 k) ?_
      show own_Fin p.tables e below _ (T8.setTop (mkF m 114 #[.val (.int p1), .val (.int (0 : Int32)), .val (.int (1 : Int32)), .val (.ref wR), .val (.int (0 : Int32)), .val (.int (1 : Int32)), .val (.int (0 : Int32))] []))
      refine own_go (fun _ k => XS.iconst X8.here hx rfl (hb hby at_114) k) ?_
      show own_Fin p.tables e below _ (T8.setTop (mkF m 115 #[.val (.int p1), .val (.int (0 : Int32)), .val (.int (1 : Int32)), .val (.ref wR), .val (.int (0 : Int32)), .val (.int (1 : Int32)), .val (.int (0 : Int32))] [(.int (1 : Int32))]))
      refine own_go (fun _ k => XS.goto X8.here hx rfl (pc0 := 115) (pc' := 119) rfl (hb hby at_115) (by decide) (by decide) k) ?_
      show own_Fin p.tables e below _ (T8.setTop (mkF m 119 #[.val (.int p1), .val (.int (0 : Int32)), .val (.int (1 : Int32)), .val (.ref wR), .val (.int (0 : Int32)), .val (.int (1 : Int32)), .val (.int (0 : Int32))] [(.int (1 : Int32))]))
      obtain ⟨fs, hr, hrun, hended, hW, hsame⟩ := X8.leave (v := some (.int (1 : Int32))) (fun h => by rw [Bd.returns] at h; cases h)
      refine ⟨_, _, ?_, hrun, hended, _, _, rfl, ?_, ⟨_, rfl⟩, hW, hsame.mono (by decide) (by decide)⟩
      · exact retN X8 hx (t := .boolean) Bd.returns (by simp) (hb hby at_119) hr
      · show Q_own_law Z p1 wA wE wR h0 n0 _ T8.heap _
        rw [e8]
        exact ⟨rfl, N5⟩
  · refine own_go (fun _ k => XS.ifNo X0.here hx rfl (hb hby at_3) rfl ((if0 _ _).trans (feq hc3).1) k) ?_
    show own_Fin p.tables e below _ (s₁.setTop (mkF m 6 #[.val (.int p1), .unset, .unset, .unset, .unset, .unset, .unset] []))
    refine own_go (fun _ k => XS.iconst X0.here hx rfl (hb hby at_6) k) ?_
    show own_Fin p.tables e below _ (s₁.setTop (mkF m 7 #[.val (.int p1), .unset, .unset, .unset, .unset, .unset, .unset] [(.int (1 : Int32))]))
    refine own_go (fun _ k => XS.goto X0.here hx rfl (pc0 := 7) (pc' := 11) rfl (hb hby at_7) (by decide) (by decide) k) ?_
    show own_Fin p.tables e below _ (s₁.setTop (mkF m 11 #[.val (.int p1), .unset, .unset, .unset, .unset, .unset, .unset] [(.int (1 : Int32))]))
    refine own_go (fun _ k => XS.istoreN X0.here hx rfl (hb hby at_11) rfl (l' := #[.val (.int p1), .val (.int (1 : Int32)), .unset, .unset, .unset, .unset, .unset]) rfl k) ?_
    show own_Fin p.tables e below _ (s₁.setTop (mkF m 12 #[.val (.int p1), .val (.int (1 : Int32)), .unset, .unset, .unset, .unset, .unset] []))
    refine own_go (fun _ k => XS.iloadN X0.here hx rfl (hb hby at_12) rfl k) ?_
    show own_Fin p.tables e below _ (s₁.setTop (mkF m 13 #[.val (.int p1), .val (.int (1 : Int32)), .unset, .unset, .unset, .unset, .unset] [(.int p1)]))
    refine own_go (fun _ k => XS.iconst X0.here hx rfl (hb hby at_13) k) ?_
    show own_Fin p.tables e below _ (s₁.setTop (mkF m 14 #[.val (.int p1), .val (.int (1 : Int32)), .unset, .unset, .unset, .unset, .unset] [(.int (2 : Int32)), (.int p1)]))
    refine own_go (fun _ k => XS.iand X0.here hx rfl (hb hby at_14) rfl k) ?_
    show own_Fin p.tables e below _ (s₁.setTop (mkF m 15 #[.val (.int p1), .val (.int (1 : Int32)), .unset, .unset, .unset, .unset, .unset] [(.int (p1 &&& (2 : Int32)))]))
    by_cases hc15 : (p1 &&& (2 : Int32)) = (0 : Int32)
    · refine own_go (fun _ k => XS.ifYes X0.here hx rfl (pc0 := 15) (pc' := 22) rfl (hb hby at_15) rfl ((if0 _ _).trans (teq hc15).1) (by decide) (by decide) k) ?_
      show own_Fin p.tables e below _ (s₁.setTop (mkF m 22 #[.val (.int p1), .val (.int (1 : Int32)), .unset, .unset, .unset, .unset, .unset] []))
      refine own_go (fun _ k => XS.iconst X0.here hx rfl (hb hby at_22) k) ?_
      show own_Fin p.tables e below _ (s₁.setTop (mkF m 23 #[.val (.int p1), .val (.int (1 : Int32)), .unset, .unset, .unset, .unset, .unset] [(.int (0 : Int32))]))
      refine own_go (fun _ k => XS.istoreN X0.here hx rfl (hb hby at_23) rfl (l' := #[.val (.int p1), .val (.int (1 : Int32)), .val (.int (0 : Int32)), .unset, .unset, .unset, .unset]) rfl k) ?_
      show own_Fin p.tables e below _ (s₁.setTop (mkF m 24 #[.val (.int p1), .val (.int (1 : Int32)), .val (.int (0 : Int32)), .unset, .unset, .unset, .unset] []))
      refine own_go (fun _ k => XS.iloadN X0.here hx rfl (hb hby at_24) rfl k) ?_
      show own_Fin p.tables e below _ (s₁.setTop (mkF m 25 #[.val (.int p1), .val (.int (1 : Int32)), .val (.int (0 : Int32)), .unset, .unset, .unset, .unset] [(.int (1 : Int32))]))
      refine own_go (fun _ k => XS.iloadN X0.here hx rfl (hb hby at_25) rfl k) ?_
      show own_Fin p.tables e below _ (s₁.setTop (mkF m 26 #[.val (.int p1), .val (.int (1 : Int32)), .val (.int (0 : Int32)), .unset, .unset, .unset, .unset] [(.int (0 : Int32)), (.int (1 : Int32))]))
      obtain ⟨_, _, ⟨T9, L9, k9, n9⟩, -, X9, ⟨Lc9, hQ9, l9, y9, z9⟩, st9⟩ := Jvm.LawKit.callS X0 hx (y := (⟨"com/example/quietgrant/quietgrant/server/Session$State", "of", "(ZZ)Lcom/example/quietgrant/quietgrant/server/Session$State;"⟩ : MethodName)) hown (mvT hZ (hw _ (List.mem_of_getElem? (i := 0) rfl))) (mvT hZ (hw _ (List.mem_of_getElem? (i := 1) rfl))) (mvT hZ (hw _ (List.mem_of_getElem? (i := 2) rfl))) (mvT hZ (hw _ (List.mem_of_getElem? (i := 3) rfl))) (by decide) (backOf (W := 0) (own_of l Z a0 hw [] (1 : Int32) (0 : Int32) wA wE wR h0 n0 Z0 SwA SwE SwR) hZ (hw _ (List.mem_of_getElem? (i := 3) rfl)) (hw _ (List.mem_of_getElem? (i := 2) rfl)) (by decide) (by decide)) (g := (mkF m 26 #[.val (.int p1), .val (.int (1 : Int32)), .val (.int (0 : Int32)), .unset, .unset, .unset, .unset] [(.int (0 : Int32)), (.int (1 : Int32))])) rfl (by rw [hml]; rfl) (argsL := [(.int (1 : Int32)), (.int (0 : Int32))]) (rest := []) (lenOf own_pd0 rfl) rfl (by show 2 * 0 + _ ≤ _; exact Nat.le_of_eq rfl) (hb hby at_26) (fun _ _ => ⟨rfl, e0, (by decide : 0 + 0 ≤ _), (by decide : 0 + 0 ≤ _)⟩)
      dsimp only [Pt.U, Pt.locs, Pt.cells, Pt.slots] at X9 l9 y9 z9 st9 hQ9
      subst l9 y9 z9
      obtain ⟨hv9, N9q, eh9⟩ := hQ9
      obtain rfl := hv9.trans (by simp : (some (.ref (if (1 : Int32) = (0 : Int32) then (if (0 : Int32) = (0 : Int32) then wA else wR) else wE)) : Option Value) = some (.ref wE))
      have N9 := Fr.app N0 N9q
      refine own_go st9 ?_
      show own_Fin p.tables e below _ (T9.setTop (mkF m 29 #[.val (.int p1), .val (.int (1 : Int32)), .val (.int (0 : Int32)), .unset, .unset, .unset, .unset] [(.ref wE)]))
      refine own_go (fun _ k => XS.astoreN X9.here hx rfl (hb hby at_29) rfl rfl (l' := #[.val (.int p1), .val (.int (1 : Int32)), .val (.int (0 : Int32)), .val (.ref wE), .unset, .unset, .unset]) rfl k) ?_
      show own_Fin p.tables e below _ (T9.setTop (mkF m 30 #[.val (.int p1), .val (.int (1 : Int32)), .val (.int (0 : Int32)), .val (.ref wE), .unset, .unset, .unset] []))
      refine own_go (fun _ k => XS.aloadN X9.here hx rfl (hb hby at_30) rfl rfl k) ?_
      show own_Fin p.tables e below _ (T9.setTop (mkF m 31 #[.val (.int p1), .val (.int (1 : Int32)), .val (.int (0 : Int32)), .val (.ref wE), .unset, .unset, .unset] [(.ref wE)]))
      obtain ⟨T10, X10, e10, st10⟩ := getS2 X9 hx hZ hown (host := "") (Or.inl (hw _ (List.mem_of_getElem? (i := 6) rfl))) Via.refl eh9 SwE (g := (mkF m 31 #[.val (.int p1), .val (.int (1 : Int32)), .val (.int (0 : Int32)), .val (.ref wE), .unset, .unset, .unset] [(.ref wE)])) rfl (hb hby at_31)
      refine own_go st10 ?_
      show own_Fin p.tables e below _ (T10.setTop (mkF m 34 #[.val (.int p1), .val (.int (1 : Int32)), .val (.int (0 : Int32)), .val (.ref wE), .unset, .unset, .unset] [(.ref wE), (.ref wE)]))
      refine own_go (fun _ k => Jvm.RoadKit.acmp (g := (mkF m 34 #[.val (.int p1), .val (.int (1 : Int32)), .val (.int (0 : Int32)), .val (.ref wE), .unset, .unset, .unset] [(.ref wE), (.ref wE)])) X10 hx rfl rfl rfl (pc0 := 34) (pc' := 37) (same := true) rfl (hb hby at_34) rfl (decide_eq_true rfl) (by decide) (by decide) k) ?_
      show own_Fin p.tables e below _ (T10.setTop (mkF m 37 #[.val (.int p1), .val (.int (1 : Int32)), .val (.int (0 : Int32)), .val (.ref wE), .unset, .unset, .unset] []))
      refine own_go (fun _ k => XS.iconst X10.here hx rfl (hb hby at_37) k) ?_
      show own_Fin p.tables e below _ (T10.setTop (mkF m 38 #[.val (.int p1), .val (.int (1 : Int32)), .val (.int (0 : Int32)), .val (.ref wE), .unset, .unset, .unset] [(.int (1 : Int32))]))
      refine own_go (fun _ k => XS.goto X10.here hx rfl (pc0 := 38) (pc' := 42) rfl (hb hby at_38) (by decide) (by decide) k) ?_
      show own_Fin p.tables e below _ (T10.setTop (mkF m 42 #[.val (.int p1), .val (.int (1 : Int32)), .val (.int (0 : Int32)), .val (.ref wE), .unset, .unset, .unset] [(.int (1 : Int32))]))
      refine own_go (fun _ k => XS.istore X10.here hx rfl (hb hby at_42) rfl (l' := #[.val (.int p1), .val (.int (1 : Int32)), .val (.int (0 : Int32)), .val (.ref wE), .val (.int (1 : Int32)), .unset, .unset]) rfl k) ?_
      show own_Fin p.tables e below _ (T10.setTop (mkF m 44 #[.val (.int p1), .val (.int (1 : Int32)), .val (.int (0 : Int32)), .val (.ref wE), .val (.int (1 : Int32)), .unset, .unset] []))
      refine own_go (fun _ k => XS.aloadN X10.here hx rfl (hb hby at_44) rfl rfl k) ?_
      show own_Fin p.tables e below _ (T10.setTop (mkF m 45 #[.val (.int p1), .val (.int (1 : Int32)), .val (.int (0 : Int32)), .val (.ref wE), .val (.int (1 : Int32)), .unset, .unset] [(.ref wE)]))
      obtain ⟨T11, X11, e11, st11⟩ := getS2 X10 hx hZ hown (host := "") (Or.inl (hw _ (List.mem_of_getElem? (i := 8) rfl))) Via.refl e10 SwR (g := (mkF m 45 #[.val (.int p1), .val (.int (1 : Int32)), .val (.int (0 : Int32)), .val (.ref wE), .val (.int (1 : Int32)), .unset, .unset] [(.ref wE)])) rfl (hb hby at_45)
      refine own_go st11 ?_
      show own_Fin p.tables e below _ (T11.setTop (mkF m 48 #[.val (.int p1), .val (.int (1 : Int32)), .val (.int (0 : Int32)), .val (.ref wE), .val (.int (1 : Int32)), .unset, .unset] [(.ref wR), (.ref wE)]))
      refine own_go (fun _ k => Jvm.RoadKit.acmp (g := (mkF m 48 #[.val (.int p1), .val (.int (1 : Int32)), .val (.int (0 : Int32)), .val (.ref wE), .val (.int (1 : Int32)), .unset, .unset] [(.ref wR), (.ref wE)])) X11 hx rfl rfl rfl (pc0 := 48) (pc' := 55) (same := false) rfl (hb hby at_48) rfl (decide_eq_false fun q => neER (Value.ref.inj q)) (by decide) (by decide) k) ?_
      show own_Fin p.tables e below _ (T11.setTop (mkF m 55 #[.val (.int p1), .val (.int (1 : Int32)), .val (.int (0 : Int32)), .val (.ref wE), .val (.int (1 : Int32)), .unset, .unset] []))
      refine own_go (fun _ k => XS.iconst X11.here hx rfl (hb hby at_55) k) ?_
      show own_Fin p.tables e below _ (T11.setTop (mkF m 56 #[.val (.int p1), .val (.int (1 : Int32)), .val (.int (0 : Int32)), .val (.ref wE), .val (.int (1 : Int32)), .unset, .unset] [(.int (0 : Int32))]))
      refine own_go (fun _ k => XS.istore X11.here hx rfl (hb hby at_56) rfl (l' := #[.val (.int p1), .val (.int (1 : Int32)), .val (.int (0 : Int32)), .val (.ref wE), .val (.int (1 : Int32)), .val (.int (0 : Int32)), .unset]) rfl k) ?_
      show own_Fin p.tables e below _ (T11.setTop (mkF m 58 #[.val (.int p1), .val (.int (1 : Int32)), .val (.int (0 : Int32)), .val (.ref wE), .val (.int (1 : Int32)), .val (.int (0 : Int32)), .unset] []))
      refine own_go (fun _ k => XS.aloadN X11.here hx rfl (hb hby at_58) rfl rfl k) ?_
      show own_Fin p.tables e below _ (T11.setTop (mkF m 59 #[.val (.int p1), .val (.int (1 : Int32)), .val (.int (0 : Int32)), .val (.ref wE), .val (.int (1 : Int32)), .val (.int (0 : Int32)), .unset] [(.ref wE)]))
      obtain ⟨T12, X12, e12, st12⟩ := getS2 X11 hx hZ hown (host := "") (Or.inl (hw _ (List.mem_of_getElem? (i := 10) rfl))) Via.refl e11 SwA (g := (mkF m 59 #[.val (.int p1), .val (.int (1 : Int32)), .val (.int (0 : Int32)), .val (.ref wE), .val (.int (1 : Int32)), .val (.int (0 : Int32)), .unset] [(.ref wE)])) rfl (hb hby at_59)
      refine own_go st12 ?_
      show own_Fin p.tables e below _ (T12.setTop (mkF m 62 #[.val (.int p1), .val (.int (1 : Int32)), .val (.int (0 : Int32)), .val (.ref wE), .val (.int (1 : Int32)), .val (.int (0 : Int32)), .unset] [(.ref wA), (.ref wE)]))
      refine own_go (fun _ k => Jvm.RoadKit.acmp (g := (mkF m 62 #[.val (.int p1), .val (.int (1 : Int32)), .val (.int (0 : Int32)), .val (.ref wE), .val (.int (1 : Int32)), .val (.int (0 : Int32)), .unset] [(.ref wA), (.ref wE)])) X12 hx rfl rfl rfl (pc0 := 62) (pc' := 69) (same := false) rfl (hb hby at_62) rfl (decide_eq_false fun q => (Ne.symm neAE) (Value.ref.inj q)) (by decide) (by decide) k) ?_
      show own_Fin p.tables e below _ (T12.setTop (mkF m 69 #[.val (.int p1), .val (.int (1 : Int32)), .val (.int (0 : Int32)), .val (.ref wE), .val (.int (1 : Int32)), .val (.int (0 : Int32)), .unset] []))
      refine own_go (fun _ k => XS.iconst X12.here hx rfl (hb hby at_69) k) ?_
      show own_Fin p.tables e below _ (T12.setTop (mkF m 70 #[.val (.int p1), .val (.int (1 : Int32)), .val (.int (0 : Int32)), .val (.ref wE), .val (.int (1 : Int32)), .val (.int (0 : Int32)), .unset] [(.int (0 : Int32))]))
      refine own_go (fun _ k => XS.istore X12.here hx rfl (hb hby at_70) rfl (l' := #[.val (.int p1), .val (.int (1 : Int32)), .val (.int (0 : Int32)), .val (.ref wE), .val (.int (1 : Int32)), .val (.int (0 : Int32)), .val (.int (0 : Int32))]) rfl k) ?_
      show own_Fin p.tables e below _ (T12.setTop (mkF m 72 #[.val (.int p1), .val (.int (1 : Int32)), .val (.int (0 : Int32)), .val (.ref wE), .val (.int (1 : Int32)), .val (.int (0 : Int32)), .val (.int (0 : Int32))] []))
      refine own_go (fun _ k => XS.iload X12.here hx rfl (hb hby at_72) rfl k) ?_
      show own_Fin p.tables e below _ (T12.setTop (mkF m 74 #[.val (.int p1), .val (.int (1 : Int32)), .val (.int (0 : Int32)), .val (.ref wE), .val (.int (1 : Int32)), .val (.int (0 : Int32)), .val (.int (0 : Int32))] [(.int (1 : Int32))]))
      refine own_go (fun _ k => XS.iloadN X12.here hx rfl (hb hby at_74) rfl k) ?_
      show own_Fin p.tables e below _ (T12.setTop (mkF m 75 #[.val (.int p1), .val (.int (1 : Int32)), .val (.int (0 : Int32)), .val (.ref wE), .val (.int (1 : Int32)), .val (.int (0 : Int32)), .val (.int (0 : Int32))] [(.int (1 : Int32)), (.int (1 : Int32))]))
      refine own_go (fun _ k => XS.icmpNo X12.here hx rfl (hb hby at_75) rfl (teq (by decide : ((1 : Int32) = (1 : Int32)))).2 k) ?_
      show own_Fin p.tables e below _ (T12.setTop (mkF m 78 #[.val (.int p1), .val (.int (1 : Int32)), .val (.int (0 : Int32)), .val (.ref wE), .val (.int (1 : Int32)), .val (.int (0 : Int32)), .val (.int (0 : Int32))] []))
      refine own_go (fun _ k => XS.iload X12.here hx rfl (hb hby at_78) rfl k) ?_
      show own_Fin p.tables e below _ (T12.setTop (mkF m 80 #[.val (.int p1), .val (.int (1 : Int32)), .val (.int (0 : Int32)), .val (.ref wE), .val (.int (1 : Int32)), .val (.int (0 : Int32)), .val (.int (0 : Int32))] [(.int (0 : Int32))]))
      refine own_go (fun _ k => XS.iloadN X12.here hx rfl (hb hby at_80) rfl k) ?_
      show own_Fin p.tables e below _ (T12.setTop (mkF m 81 #[.val (.int p1), .val (.int (1 : Int32)), .val (.int (0 : Int32)), .val (.ref wE), .val (.int (1 : Int32)), .val (.int (0 : Int32)), .val (.int (0 : Int32))] [(.int (0 : Int32)), (.int (0 : Int32))]))
      refine own_go (fun _ k => XS.ifYes X12.here hx rfl (pc0 := 81) (pc' := 92) rfl (hb hby at_81) rfl ((if0 _ _).trans (teq (by decide : ((0 : Int32) = (0 : Int32)))).1) (by decide) (by decide) k) ?_
      show own_Fin p.tables e below _ (T12.setTop (mkF m 92 #[.val (.int p1), .val (.int (1 : Int32)), .val (.int (0 : Int32)), .val (.ref wE), .val (.int (1 : Int32)), .val (.int (0 : Int32)), .val (.int (0 : Int32))] [(.int (0 : Int32))]))
      refine own_go (fun _ k => XS.iconst X12.here hx rfl (hb hby at_92) k) ?_
      show own_Fin p.tables e below _ (T12.setTop (mkF m 93 #[.val (.int p1), .val (.int (1 : Int32)), .val (.int (0 : Int32)), .val (.ref wE), .val (.int (1 : Int32)), .val (.int (0 : Int32)), .val (.int (0 : Int32))] [(.int (0 : Int32)), (.int (0 : Int32))]))
      refine own_go (fun _ k => XS.icmpNo X12.here hx rfl (hb hby at_93) rfl (teq (by decide : ((0 : Int32) = (0 : Int32)))).2 k) ?_
      show own_Fin p.tables e below _ (T12.setTop (mkF m 96 #[.val (.int p1), .val (.int (1 : Int32)), .val (.int (0 : Int32)), .val (.ref wE), .val (.int (1 : Int32)), .val (.int (0 : Int32)), .val (.int (0 : Int32))] []))
      refine own_go (fun _ k => XS.iload X12.here hx rfl (hb hby at_96) rfl k) ?_
      show own_Fin p.tables e below _ (T12.setTop (mkF m 98 #[.val (.int p1), .val (.int (1 : Int32)), .val (.int (0 : Int32)), .val (.ref wE), .val (.int (1 : Int32)), .val (.int (0 : Int32)), .val (.int (0 : Int32))] [(.int (0 : Int32))]))
      refine own_go (fun _ k => XS.iloadN X12.here hx rfl (hb hby at_98) rfl k) ?_
      show own_Fin p.tables e below _ (T12.setTop (mkF m 99 #[.val (.int p1), .val (.int (1 : Int32)), .val (.int (0 : Int32)), .val (.ref wE), .val (.int (1 : Int32)), .val (.int (0 : Int32)), .val (.int (0 : Int32))] [(.int (0 : Int32)), (.int (0 : Int32))]))
      refine own_go (fun _ k => XS.ifNo X12.here hx rfl (hb hby at_99) rfl ((if0 _ _).trans (teq (by decide : ((0 : Int32) = (0 : Int32)))).2) k) ?_
      show own_Fin p.tables e below _ (T12.setTop (mkF m 102 #[.val (.int p1), .val (.int (1 : Int32)), .val (.int (0 : Int32)), .val (.ref wE), .val (.int (1 : Int32)), .val (.int (0 : Int32)), .val (.int (0 : Int32))] [(.int (0 : Int32))]))
      refine own_go (fun _ k => XS.iloadN X12.here hx rfl (hb hby at_102) rfl k) ?_
      show own_Fin p.tables e below _ (T12.setTop (mkF m 103 #[.val (.int p1), .val (.int (1 : Int32)), .val (.int (0 : Int32)), .val (.ref wE), .val (.int (1 : Int32)), .val (.int (0 : Int32)), .val (.int (0 : Int32))] [(.int (1 : Int32)), (.int (0 : Int32))]))
      refine own_go (fun _ k => XS.ifYes X12.here hx rfl (pc0 := 103) (pc' := 110) rfl (hb hby at_103) rfl ((if0 _ _).trans (feq (by decide : ¬ ((1 : Int32) = (0 : Int32)))).2) (by decide) (by decide) k) ?_
      show own_Fin p.tables e below _ (T12.setTop (mkF m 110 #[.val (.int p1), .val (.int (1 : Int32)), .val (.int (0 : Int32)), .val (.ref wE), .val (.int (1 : Int32)), .val (.int (0 : Int32)), .val (.int (0 : Int32))] [(.int (0 : Int32))]))
      refine own_go (fun _ k => XS.iconst X12.here hx rfl (hb hby at_110) k) ?_
      show own_Fin p.tables e below _ (T12.setTop (mkF m 111 #[.val (.int p1), .val (.int (1 : Int32)), .val (.int (0 : Int32)), .val (.ref wE), .val (.int (1 : Int32)), .val (.int (0 : Int32)), .val (.int (0 : Int32))] [(.int (0 : Int32)), (.int (0 : Int32))]))
      refine own_go (fun _ k => XS.icmpNo X12.here hx rfl (hb hby at_111) rfl (teq (by decide : ((0 : Int32) = (0 : Int32)))).2 k) ?_
      show own_Fin p.tables e below _ (T12.setTop (mkF m 114 #[.val (.int p1), .val (.int (1 : Int32)), .val (.int (0 : Int32)), .val (.ref wE), .val (.int (1 : Int32)), .val (.int (0 : Int32)), .val (.int (0 : Int32))] []))
      refine own_go (fun _ k => XS.iconst X12.here hx rfl (hb hby at_114) k) ?_
      show own_Fin p.tables e below _ (T12.setTop (mkF m 115 #[.val (.int p1), .val (.int (1 : Int32)), .val (.int (0 : Int32)), .val (.ref wE), .val (.int (1 : Int32)), .val (.int (0 : Int32)), .val (.int (0 : Int32))] [(.int (1 : Int32))]))
      refine own_go (fun _ k => XS.goto X12.here hx rfl (pc0 := 115) (pc' := 119) rfl (hb hby at_115) (by decide) (by decide) k) ?_
      show own_Fin p.tables e below _ (T12.setTop (mkF m 119 #[.val (.int p1), .val (.int (1 : Int32)), .val (.int (0 : Int32)), .val (.ref wE), .val (.int (1 : Int32)), .val (.int (0 : Int32)), .val (.int (0 : Int32))] [(.int (1 : Int32))]))
      obtain ⟨fs, hr, hrun, hended, hW, hsame⟩ := X12.leave (v := some (.int (1 : Int32))) (fun h => by rw [Bd.returns] at h; cases h)
      refine ⟨_, _, ?_, hrun, hended, _, _, rfl, ?_, ⟨_, rfl⟩, hW, hsame.mono (by decide) (by decide)⟩
      · exact retN X12 hx (t := .boolean) Bd.returns (by simp) (hb hby at_119) hr
      · show Q_own_law Z p1 wA wE wR h0 n0 _ T12.heap _
        rw [e12]
        exact ⟨rfl, N9⟩
    · refine own_go (fun _ k => XS.ifNo X0.here hx rfl (hb hby at_15) rfl ((if0 _ _).trans (feq hc15).1) k) ?_
      show own_Fin p.tables e below _ (s₁.setTop (mkF m 18 #[.val (.int p1), .val (.int (1 : Int32)), .unset, .unset, .unset, .unset, .unset] []))
      refine own_go (fun _ k => XS.iconst X0.here hx rfl (hb hby at_18) k) ?_
      show own_Fin p.tables e below _ (s₁.setTop (mkF m 19 #[.val (.int p1), .val (.int (1 : Int32)), .unset, .unset, .unset, .unset, .unset] [(.int (1 : Int32))]))
      refine own_go (fun _ k => XS.goto X0.here hx rfl (pc0 := 19) (pc' := 23) rfl (hb hby at_19) (by decide) (by decide) k) ?_
      show own_Fin p.tables e below _ (s₁.setTop (mkF m 23 #[.val (.int p1), .val (.int (1 : Int32)), .unset, .unset, .unset, .unset, .unset] [(.int (1 : Int32))]))
      refine own_go (fun _ k => XS.istoreN X0.here hx rfl (hb hby at_23) rfl (l' := #[.val (.int p1), .val (.int (1 : Int32)), .val (.int (1 : Int32)), .unset, .unset, .unset, .unset]) rfl k) ?_
      show own_Fin p.tables e below _ (s₁.setTop (mkF m 24 #[.val (.int p1), .val (.int (1 : Int32)), .val (.int (1 : Int32)), .unset, .unset, .unset, .unset] []))
      refine own_go (fun _ k => XS.iloadN X0.here hx rfl (hb hby at_24) rfl k) ?_
      show own_Fin p.tables e below _ (s₁.setTop (mkF m 25 #[.val (.int p1), .val (.int (1 : Int32)), .val (.int (1 : Int32)), .unset, .unset, .unset, .unset] [(.int (1 : Int32))]))
      refine own_go (fun _ k => XS.iloadN X0.here hx rfl (hb hby at_25) rfl k) ?_
      show own_Fin p.tables e below _ (s₁.setTop (mkF m 26 #[.val (.int p1), .val (.int (1 : Int32)), .val (.int (1 : Int32)), .unset, .unset, .unset, .unset] [(.int (1 : Int32)), (.int (1 : Int32))]))
      obtain ⟨_, _, ⟨T13, L13, k13, n13⟩, -, X13, ⟨Lc13, hQ13, l13, y13, z13⟩, st13⟩ := Jvm.LawKit.callS X0 hx (y := (⟨"com/example/quietgrant/quietgrant/server/Session$State", "of", "(ZZ)Lcom/example/quietgrant/quietgrant/server/Session$State;"⟩ : MethodName)) hown (mvT hZ (hw _ (List.mem_of_getElem? (i := 0) rfl))) (mvT hZ (hw _ (List.mem_of_getElem? (i := 1) rfl))) (mvT hZ (hw _ (List.mem_of_getElem? (i := 2) rfl))) (mvT hZ (hw _ (List.mem_of_getElem? (i := 3) rfl))) (by decide) (backOf (W := 0) (own_of l Z a0 hw [] (1 : Int32) (1 : Int32) wA wE wR h0 n0 Z0 SwA SwE SwR) hZ (hw _ (List.mem_of_getElem? (i := 3) rfl)) (hw _ (List.mem_of_getElem? (i := 2) rfl)) (by decide) (by decide)) (g := (mkF m 26 #[.val (.int p1), .val (.int (1 : Int32)), .val (.int (1 : Int32)), .unset, .unset, .unset, .unset] [(.int (1 : Int32)), (.int (1 : Int32))])) rfl (by rw [hml]; rfl) (argsL := [(.int (1 : Int32)), (.int (1 : Int32))]) (rest := []) (lenOf own_pd0 rfl) rfl (by show 2 * 0 + _ ≤ _; exact Nat.le_of_eq rfl) (hb hby at_26) (fun _ _ => ⟨rfl, e0, (by decide : 0 + 0 ≤ _), (by decide : 0 + 0 ≤ _)⟩)
      dsimp only [Pt.U, Pt.locs, Pt.cells, Pt.slots] at X13 l13 y13 z13 st13 hQ13
      subst l13 y13 z13
      obtain ⟨hv13, N13q, eh13⟩ := hQ13
      obtain rfl := hv13.trans (by simp : (some (.ref (if (1 : Int32) = (0 : Int32) then (if (1 : Int32) = (0 : Int32) then wA else wR) else wE)) : Option Value) = some (.ref wE))
      have N13 := Fr.app N0 N13q
      refine own_go st13 ?_
      show own_Fin p.tables e below _ (T13.setTop (mkF m 29 #[.val (.int p1), .val (.int (1 : Int32)), .val (.int (1 : Int32)), .unset, .unset, .unset, .unset] [(.ref wE)]))
      refine own_go (fun _ k => XS.astoreN X13.here hx rfl (hb hby at_29) rfl rfl (l' := #[.val (.int p1), .val (.int (1 : Int32)), .val (.int (1 : Int32)), .val (.ref wE), .unset, .unset, .unset]) rfl k) ?_
      show own_Fin p.tables e below _ (T13.setTop (mkF m 30 #[.val (.int p1), .val (.int (1 : Int32)), .val (.int (1 : Int32)), .val (.ref wE), .unset, .unset, .unset] []))
      refine own_go (fun _ k => XS.aloadN X13.here hx rfl (hb hby at_30) rfl rfl k) ?_
      show own_Fin p.tables e below _ (T13.setTop (mkF m 31 #[.val (.int p1), .val (.int (1 : Int32)), .val (.int (1 : Int32)), .val (.ref wE), .unset, .unset, .unset] [(.ref wE)]))
      obtain ⟨T14, X14, e14, st14⟩ := getS2 X13 hx hZ hown (host := "") (Or.inl (hw _ (List.mem_of_getElem? (i := 6) rfl))) Via.refl eh13 SwE (g := (mkF m 31 #[.val (.int p1), .val (.int (1 : Int32)), .val (.int (1 : Int32)), .val (.ref wE), .unset, .unset, .unset] [(.ref wE)])) rfl (hb hby at_31)
      refine own_go st14 ?_
      show own_Fin p.tables e below _ (T14.setTop (mkF m 34 #[.val (.int p1), .val (.int (1 : Int32)), .val (.int (1 : Int32)), .val (.ref wE), .unset, .unset, .unset] [(.ref wE), (.ref wE)]))
      refine own_go (fun _ k => Jvm.RoadKit.acmp (g := (mkF m 34 #[.val (.int p1), .val (.int (1 : Int32)), .val (.int (1 : Int32)), .val (.ref wE), .unset, .unset, .unset] [(.ref wE), (.ref wE)])) X14 hx rfl rfl rfl (pc0 := 34) (pc' := 37) (same := true) rfl (hb hby at_34) rfl (decide_eq_true rfl) (by decide) (by decide) k) ?_
      show own_Fin p.tables e below _ (T14.setTop (mkF m 37 #[.val (.int p1), .val (.int (1 : Int32)), .val (.int (1 : Int32)), .val (.ref wE), .unset, .unset, .unset] []))
      refine own_go (fun _ k => XS.iconst X14.here hx rfl (hb hby at_37) k) ?_
      show own_Fin p.tables e below _ (T14.setTop (mkF m 38 #[.val (.int p1), .val (.int (1 : Int32)), .val (.int (1 : Int32)), .val (.ref wE), .unset, .unset, .unset] [(.int (1 : Int32))]))
      refine own_go (fun _ k => XS.goto X14.here hx rfl (pc0 := 38) (pc' := 42) rfl (hb hby at_38) (by decide) (by decide) k) ?_
      show own_Fin p.tables e below _ (T14.setTop (mkF m 42 #[.val (.int p1), .val (.int (1 : Int32)), .val (.int (1 : Int32)), .val (.ref wE), .unset, .unset, .unset] [(.int (1 : Int32))]))
      refine own_go (fun _ k => XS.istore X14.here hx rfl (hb hby at_42) rfl (l' := #[.val (.int p1), .val (.int (1 : Int32)), .val (.int (1 : Int32)), .val (.ref wE), .val (.int (1 : Int32)), .unset, .unset]) rfl k) ?_
      show own_Fin p.tables e below _ (T14.setTop (mkF m 44 #[.val (.int p1), .val (.int (1 : Int32)), .val (.int (1 : Int32)), .val (.ref wE), .val (.int (1 : Int32)), .unset, .unset] []))
      refine own_go (fun _ k => XS.aloadN X14.here hx rfl (hb hby at_44) rfl rfl k) ?_
      show own_Fin p.tables e below _ (T14.setTop (mkF m 45 #[.val (.int p1), .val (.int (1 : Int32)), .val (.int (1 : Int32)), .val (.ref wE), .val (.int (1 : Int32)), .unset, .unset] [(.ref wE)]))
      obtain ⟨T15, X15, e15, st15⟩ := getS2 X14 hx hZ hown (host := "") (Or.inl (hw _ (List.mem_of_getElem? (i := 8) rfl))) Via.refl e14 SwR (g := (mkF m 45 #[.val (.int p1), .val (.int (1 : Int32)), .val (.int (1 : Int32)), .val (.ref wE), .val (.int (1 : Int32)), .unset, .unset] [(.ref wE)])) rfl (hb hby at_45)
      refine own_go st15 ?_
      show own_Fin p.tables e below _ (T15.setTop (mkF m 48 #[.val (.int p1), .val (.int (1 : Int32)), .val (.int (1 : Int32)), .val (.ref wE), .val (.int (1 : Int32)), .unset, .unset] [(.ref wR), (.ref wE)]))
      refine own_go (fun _ k => Jvm.RoadKit.acmp (g := (mkF m 48 #[.val (.int p1), .val (.int (1 : Int32)), .val (.int (1 : Int32)), .val (.ref wE), .val (.int (1 : Int32)), .unset, .unset] [(.ref wR), (.ref wE)])) X15 hx rfl rfl rfl (pc0 := 48) (pc' := 55) (same := false) rfl (hb hby at_48) rfl (decide_eq_false fun q => neER (Value.ref.inj q)) (by decide) (by decide) k) ?_
      show own_Fin p.tables e below _ (T15.setTop (mkF m 55 #[.val (.int p1), .val (.int (1 : Int32)), .val (.int (1 : Int32)), .val (.ref wE), .val (.int (1 : Int32)), .unset, .unset] []))
      refine own_go (fun _ k => XS.iconst X15.here hx rfl (hb hby at_55) k) ?_
      show own_Fin p.tables e below _ (T15.setTop (mkF m 56 #[.val (.int p1), .val (.int (1 : Int32)), .val (.int (1 : Int32)), .val (.ref wE), .val (.int (1 : Int32)), .unset, .unset] [(.int (0 : Int32))]))
      refine own_go (fun _ k => XS.istore X15.here hx rfl (hb hby at_56) rfl (l' := #[.val (.int p1), .val (.int (1 : Int32)), .val (.int (1 : Int32)), .val (.ref wE), .val (.int (1 : Int32)), .val (.int (0 : Int32)), .unset]) rfl k) ?_
      show own_Fin p.tables e below _ (T15.setTop (mkF m 58 #[.val (.int p1), .val (.int (1 : Int32)), .val (.int (1 : Int32)), .val (.ref wE), .val (.int (1 : Int32)), .val (.int (0 : Int32)), .unset] []))
      refine own_go (fun _ k => XS.aloadN X15.here hx rfl (hb hby at_58) rfl rfl k) ?_
      show own_Fin p.tables e below _ (T15.setTop (mkF m 59 #[.val (.int p1), .val (.int (1 : Int32)), .val (.int (1 : Int32)), .val (.ref wE), .val (.int (1 : Int32)), .val (.int (0 : Int32)), .unset] [(.ref wE)]))
      obtain ⟨T16, X16, e16, st16⟩ := getS2 X15 hx hZ hown (host := "") (Or.inl (hw _ (List.mem_of_getElem? (i := 10) rfl))) Via.refl e15 SwA (g := (mkF m 59 #[.val (.int p1), .val (.int (1 : Int32)), .val (.int (1 : Int32)), .val (.ref wE), .val (.int (1 : Int32)), .val (.int (0 : Int32)), .unset] [(.ref wE)])) rfl (hb hby at_59)
      refine own_go st16 ?_
      show own_Fin p.tables e below _ (T16.setTop (mkF m 62 #[.val (.int p1), .val (.int (1 : Int32)), .val (.int (1 : Int32)), .val (.ref wE), .val (.int (1 : Int32)), .val (.int (0 : Int32)), .unset] [(.ref wA), (.ref wE)]))
      refine own_go (fun _ k => Jvm.RoadKit.acmp (g := (mkF m 62 #[.val (.int p1), .val (.int (1 : Int32)), .val (.int (1 : Int32)), .val (.ref wE), .val (.int (1 : Int32)), .val (.int (0 : Int32)), .unset] [(.ref wA), (.ref wE)])) X16 hx rfl rfl rfl (pc0 := 62) (pc' := 69) (same := false) rfl (hb hby at_62) rfl (decide_eq_false fun q => (Ne.symm neAE) (Value.ref.inj q)) (by decide) (by decide) k) ?_
      show own_Fin p.tables e below _ (T16.setTop (mkF m 69 #[.val (.int p1), .val (.int (1 : Int32)), .val (.int (1 : Int32)), .val (.ref wE), .val (.int (1 : Int32)), .val (.int (0 : Int32)), .unset] []))
      refine own_go (fun _ k => XS.iconst X16.here hx rfl (hb hby at_69) k) ?_
      show own_Fin p.tables e below _ (T16.setTop (mkF m 70 #[.val (.int p1), .val (.int (1 : Int32)), .val (.int (1 : Int32)), .val (.ref wE), .val (.int (1 : Int32)), .val (.int (0 : Int32)), .unset] [(.int (0 : Int32))]))
      refine own_go (fun _ k => XS.istore X16.here hx rfl (hb hby at_70) rfl (l' := #[.val (.int p1), .val (.int (1 : Int32)), .val (.int (1 : Int32)), .val (.ref wE), .val (.int (1 : Int32)), .val (.int (0 : Int32)), .val (.int (0 : Int32))]) rfl k) ?_
      show own_Fin p.tables e below _ (T16.setTop (mkF m 72 #[.val (.int p1), .val (.int (1 : Int32)), .val (.int (1 : Int32)), .val (.ref wE), .val (.int (1 : Int32)), .val (.int (0 : Int32)), .val (.int (0 : Int32))] []))
      refine own_go (fun _ k => XS.iload X16.here hx rfl (hb hby at_72) rfl k) ?_
      show own_Fin p.tables e below _ (T16.setTop (mkF m 74 #[.val (.int p1), .val (.int (1 : Int32)), .val (.int (1 : Int32)), .val (.ref wE), .val (.int (1 : Int32)), .val (.int (0 : Int32)), .val (.int (0 : Int32))] [(.int (1 : Int32))]))
      refine own_go (fun _ k => XS.iloadN X16.here hx rfl (hb hby at_74) rfl k) ?_
      show own_Fin p.tables e below _ (T16.setTop (mkF m 75 #[.val (.int p1), .val (.int (1 : Int32)), .val (.int (1 : Int32)), .val (.ref wE), .val (.int (1 : Int32)), .val (.int (0 : Int32)), .val (.int (0 : Int32))] [(.int (1 : Int32)), (.int (1 : Int32))]))
      refine own_go (fun _ k => XS.icmpNo X16.here hx rfl (hb hby at_75) rfl (teq (by decide : ((1 : Int32) = (1 : Int32)))).2 k) ?_
      show own_Fin p.tables e below _ (T16.setTop (mkF m 78 #[.val (.int p1), .val (.int (1 : Int32)), .val (.int (1 : Int32)), .val (.ref wE), .val (.int (1 : Int32)), .val (.int (0 : Int32)), .val (.int (0 : Int32))] []))
      refine own_go (fun _ k => XS.iload X16.here hx rfl (hb hby at_78) rfl k) ?_
      show own_Fin p.tables e below _ (T16.setTop (mkF m 80 #[.val (.int p1), .val (.int (1 : Int32)), .val (.int (1 : Int32)), .val (.ref wE), .val (.int (1 : Int32)), .val (.int (0 : Int32)), .val (.int (0 : Int32))] [(.int (0 : Int32))]))
      refine own_go (fun _ k => XS.iloadN X16.here hx rfl (hb hby at_80) rfl k) ?_
      show own_Fin p.tables e below _ (T16.setTop (mkF m 81 #[.val (.int p1), .val (.int (1 : Int32)), .val (.int (1 : Int32)), .val (.ref wE), .val (.int (1 : Int32)), .val (.int (0 : Int32)), .val (.int (0 : Int32))] [(.int (1 : Int32)), (.int (0 : Int32))]))
      refine own_go (fun _ k => XS.ifNo X16.here hx rfl (hb hby at_81) rfl ((if0 _ _).trans (feq (by decide : ¬ ((1 : Int32) = (0 : Int32)))).1) k) ?_
      show own_Fin p.tables e below _ (T16.setTop (mkF m 84 #[.val (.int p1), .val (.int (1 : Int32)), .val (.int (1 : Int32)), .val (.ref wE), .val (.int (1 : Int32)), .val (.int (0 : Int32)), .val (.int (0 : Int32))] [(.int (0 : Int32))]))
      refine own_go (fun _ k => XS.iloadN X16.here hx rfl (hb hby at_84) rfl k) ?_
      show own_Fin p.tables e below _ (T16.setTop (mkF m 85 #[.val (.int p1), .val (.int (1 : Int32)), .val (.int (1 : Int32)), .val (.ref wE), .val (.int (1 : Int32)), .val (.int (0 : Int32)), .val (.int (0 : Int32))] [(.int (1 : Int32)), (.int (0 : Int32))]))
      refine own_go (fun _ k => XS.ifYes X16.here hx rfl (pc0 := 85) (pc' := 92) rfl (hb hby at_85) rfl ((if0 _ _).trans (feq (by decide : ¬ ((1 : Int32) = (0 : Int32)))).2) (by decide) (by decide) k) ?_
      show own_Fin p.tables e below _ (T16.setTop (mkF m 92 #[.val (.int p1), .val (.int (1 : Int32)), .val (.int (1 : Int32)), .val (.ref wE), .val (.int (1 : Int32)), .val (.int (0 : Int32)), .val (.int (0 : Int32))] [(.int (0 : Int32))]))
      refine own_go (fun _ k => XS.iconst X16.here hx rfl (hb hby at_92) k) ?_
      show own_Fin p.tables e below _ (T16.setTop (mkF m 93 #[.val (.int p1), .val (.int (1 : Int32)), .val (.int (1 : Int32)), .val (.ref wE), .val (.int (1 : Int32)), .val (.int (0 : Int32)), .val (.int (0 : Int32))] [(.int (0 : Int32)), (.int (0 : Int32))]))
      refine own_go (fun _ k => XS.icmpNo X16.here hx rfl (hb hby at_93) rfl (teq (by decide : ((0 : Int32) = (0 : Int32)))).2 k) ?_
      show own_Fin p.tables e below _ (T16.setTop (mkF m 96 #[.val (.int p1), .val (.int (1 : Int32)), .val (.int (1 : Int32)), .val (.ref wE), .val (.int (1 : Int32)), .val (.int (0 : Int32)), .val (.int (0 : Int32))] []))
      refine own_go (fun _ k => XS.iload X16.here hx rfl (hb hby at_96) rfl k) ?_
      show own_Fin p.tables e below _ (T16.setTop (mkF m 98 #[.val (.int p1), .val (.int (1 : Int32)), .val (.int (1 : Int32)), .val (.ref wE), .val (.int (1 : Int32)), .val (.int (0 : Int32)), .val (.int (0 : Int32))] [(.int (0 : Int32))]))
      refine own_go (fun _ k => XS.iloadN X16.here hx rfl (hb hby at_98) rfl k) ?_
      show own_Fin p.tables e below _ (T16.setTop (mkF m 99 #[.val (.int p1), .val (.int (1 : Int32)), .val (.int (1 : Int32)), .val (.ref wE), .val (.int (1 : Int32)), .val (.int (0 : Int32)), .val (.int (0 : Int32))] [(.int (1 : Int32)), (.int (0 : Int32))]))
      refine own_go (fun _ k => XS.ifYes X16.here hx rfl (pc0 := 99) (pc' := 110) rfl (hb hby at_99) rfl ((if0 _ _).trans (feq (by decide : ¬ ((1 : Int32) = (0 : Int32)))).2) (by decide) (by decide) k) ?_
      show own_Fin p.tables e below _ (T16.setTop (mkF m 110 #[.val (.int p1), .val (.int (1 : Int32)), .val (.int (1 : Int32)), .val (.ref wE), .val (.int (1 : Int32)), .val (.int (0 : Int32)), .val (.int (0 : Int32))] [(.int (0 : Int32))]))
      refine own_go (fun _ k => XS.iconst X16.here hx rfl (hb hby at_110) k) ?_
      show own_Fin p.tables e below _ (T16.setTop (mkF m 111 #[.val (.int p1), .val (.int (1 : Int32)), .val (.int (1 : Int32)), .val (.ref wE), .val (.int (1 : Int32)), .val (.int (0 : Int32)), .val (.int (0 : Int32))] [(.int (0 : Int32)), (.int (0 : Int32))]))
      refine own_go (fun _ k => XS.icmpNo X16.here hx rfl (hb hby at_111) rfl (teq (by decide : ((0 : Int32) = (0 : Int32)))).2 k) ?_
      show own_Fin p.tables e below _ (T16.setTop (mkF m 114 #[.val (.int p1), .val (.int (1 : Int32)), .val (.int (1 : Int32)), .val (.ref wE), .val (.int (1 : Int32)), .val (.int (0 : Int32)), .val (.int (0 : Int32))] []))
      refine own_go (fun _ k => XS.iconst X16.here hx rfl (hb hby at_114) k) ?_
      show own_Fin p.tables e below _ (T16.setTop (mkF m 115 #[.val (.int p1), .val (.int (1 : Int32)), .val (.int (1 : Int32)), .val (.ref wE), .val (.int (1 : Int32)), .val (.int (0 : Int32)), .val (.int (0 : Int32))] [(.int (1 : Int32))]))
      refine own_go (fun _ k => XS.goto X16.here hx rfl (pc0 := 115) (pc' := 119) rfl (hb hby at_115) (by decide) (by decide) k) ?_
      show own_Fin p.tables e below _ (T16.setTop (mkF m 119 #[.val (.int p1), .val (.int (1 : Int32)), .val (.int (1 : Int32)), .val (.ref wE), .val (.int (1 : Int32)), .val (.int (0 : Int32)), .val (.int (0 : Int32))] [(.int (1 : Int32))]))
      obtain ⟨fs, hr, hrun, hended, hW, hsame⟩ := X16.leave (v := some (.int (1 : Int32))) (fun h => by rw [Bd.returns] at h; cases h)
      refine ⟨_, _, ?_, hrun, hended, _, _, rfl, ?_, ⟨_, rfl⟩, hW, hsame.mono (by decide) (by decide)⟩
      · exact retN X16 hx (t := .boolean) Bd.returns (by simp) (hb hby at_119) hr
      · show Q_own_law Z p1 wA wE wR h0 n0 _ T16.heap _
        rw [e16]
        exact ⟨rfl, N13⟩
set_option maxRecDepth 65536 in
set_option maxHeartbeats 40000000 in
theorem comes_1 {Post : Tables → Env → Array Value → State → Outcome → State → Prop} (hpost : ∀ tb e args s v u, (limb_1_1.after args s (.returned v) u = true ∧ limb_1_2.after args s (.returned v) u = true ∧ True) → FrameEnd s (.returned v) u (Jvm.fieldLocs frame_1_writes args s ++ Jvm.arrayLocs frame_1_arrays args s ++ Jvm.staticLocs frame_1_statics s) 0 0 → Post tb e args s (.returned v) u) :
    ArmFor flags0 classFile x code maxLocals ret World_1 tables_1 room_1 Calls_1 rest_1 Pre_1 Post := by
  intro l hfl _ _ p e ha hc hk s m args below hf hA hF happ hP
  obtain ⟨hcalls, hrest, hpre⟩ := hP
  obtain ⟨-, -, -, hnamed, -, -, -, hat⟩ := (Spec.applies_iff hf).mp happ
  obtain ⟨hg, hn⟩ := and_e (Cond.before_iff.mp (show (Jvm.Cond.and given_1 narrow_1).before args s = true from hpre))
  obtain ⟨gcount, gr0⟩ := and_e hg
  obtain ⟨w0, rfl⟩ : ∃ w0 : Value, args = #[w0] := by
    have hs : args.size = 1 := by simpa [Cond.value, given_1] using gcount
    obtain ⟨L⟩ := args
    match L, hs with
    | [w0], _ => exact ⟨w0, rfl⟩
  have hw := fun d (hd : d ∈ tables_1) => atoms_spec (ws := Jvm.Cond.code x code maxLocals ret :: tables_1) hat d (List.mem_cons_of_mem _ hd)
  have hfit : Fit s := fun {y c} hc i hi => by
    obtain ⟨ha, rfl⟩ := Array.getElem?_eq_some_iff.mp hc
    have q := List.all_eq_true.mp ((Array.all_eq_true_iff_forall_mem.mp hF) _ (Array.getElem_mem ha)) i (List.mem_range.mpr hi)
    simpa [Array.getElem?_eq_getElem hi] using q
  obtain ⟨i0, ei0⟩ := is_v gr0
  obtain rfl : w0 = (.int i0) := Option.some.inj ei0
  obtain ⟨n0, r0⟩ := and_e hn
  obtain ⟨n1, r1⟩ := and_e r0
  obtain ⟨n2, r2⟩ := and_e r1
  obtain ⟨n3, r3⟩ := and_e r2
  obtain ⟨n4, n5⟩ := and_e r3
  obtain ⟨wA, eA⟩ := exa_v n0
  obtain ⟨wE, eE⟩ := exa_v n1
  obtain ⟨wR, eR⟩ := exa_v n4
  have FA := own_fld eA (own_eqI n2)
  have FE := own_fld eE (own_eqI n3)
  have FR := own_fld eR (own_eqI n5)
  obtain ⟨n, o, h1, h2, h3, _, L, rfl, ⟨rfl, N⟩, hq⟩ := own_law l s _ hw tables_1 i0 wA wE wR s.heap s.heap.size (Nat.le_refl _) (Sta.start eA (Or.inr ⟨(hw _ (List.mem_of_getElem? (i := 2) rfl)), (hw _ (List.mem_of_getElem? (i := 5) rfl))⟩)) (Sta.start eE (Or.inr ⟨(hw _ (List.mem_of_getElem? (i := 2) rfl)), (hw _ (List.mem_of_getElem? (i := 7) rfl))⟩)) (Sta.start eR (Or.inr ⟨(hw _ (List.mem_of_getElem? (i := 2) rfl)), (hw _ (List.mem_of_getElem? (i := 9) rfl))⟩)) (Fld.ne FA FE (fun q => absurd (Value.int.inj q) (by decide))) (Fld.ne FA FR (fun q => absurd (Value.int.inj q) (by decide))) (Fld.ne FE FR (fun q => absurd (Value.int.inj q) (by decide))) p e ha hc hk s m _ below hf ((Spec.applies_iff_loose hf).mp happ).1 ⟨rfl, State.Warmed39.refl s, rfl⟩ trivial
  refine ⟨n, _, h1, h2, h3, hpost _ _ _ _ _ _ ⟨Cond.after_iff.mpr rfl, Cond.after_iff.mpr (eq_i res_at (Term.int_eval (1)) rfl), trivial⟩ ⟨hq.1, hq.2.1, (hq.2.2.sift fun y hy => Or.inr (N y hy)).mono (by decide) (by decide)⟩⟩
theorem main_1_1 : Claimed_1_1 := comes_1 fun _ _ _ _ _ _ h hF => ⟨h.1, hF⟩
theorem main_1_2 : Claimed_1_2 := comes_1 fun _ _ _ _ _ _ h hF => ⟨h.2.1, hF⟩
end Jvm.Pilot.@@N@@
namespace Jvm.Pilot.@@N@@
open Jvm Jvm.ClassFile Sem Op Lib Jvm.Free Jvm.Stand Jvm.Pilot.@@N@@.Jvm.D
/-! MADE BY PROGRAM (witnessworld.py) out of the Statement's table words and the real class files: 12 classes; the members and pool entries that the words name. The judged class is class 1, her method 1. -/
namespace start1
open Jvm.ClassFile
def u (s : String) : CpInfo := .utf8 (stringToUtf16 s)
/-- a pool by its gaps: so many unusable entries, then the entry; so many at the end -/
def gap : Nat → List CpInfo → List CpInfo
  | 0, r => r
  | n + 1, r => .unusable :: gap n r
def poolList (es : List (Nat × CpInfo)) (last : Nat) : List CpInfo := es.foldr (fun e r => gap e.1 (e.2 :: r)) (gap last [])
def pool (es : List (Nat × CpInfo)) (last : Nat) : Array CpInfo := ⟨poolList es last⟩
def fileOf (pool : Array CpInfo) (this : Nat) (attrs : Array Attribute := #[]) (ms : Array MethodInfo := #[]) (fl : Nat := 33) (sup : Nat := 0) (ifs : Array Nat := #[]) (fds : Array FieldInfo := #[]) : ClassFile where
  minorVersion := 0
  majorVersion := 65
  constantPool := pool
  accessFlags := fl
  thisClass := this
  superClass := sup
  interfaces := ifs
  fields := fds
  methods := ms
  attributes := attrs
def plain (name : String) (sup : Option ClassId) : Class where
  name := name
  kind := .ordinary
  loader := none
  accessFlags := 33
  super := sup
  interfaces := #[]
  cf := none
  fields := #[]
  methods := #[]
  instanceTypes := #[]
  staticTypes := #[]
  resolved := #[]
  callSites := []
  init := .initialized
  statics := none
  mirror := none

def pool0 : Array CpInfo := pool [(5, u "<init>"), (0, u "()V"), (1, .class_ 10), (1, u "java/lang/Object")] 113

def k0m0 : Method := { name := "<init>", desc := "()V", sig := { parameters := [], returnType := none }, accessFlags := 1, code := none }
/-- java/lang/Object -/
def k0 : Class := { plain "java/lang/Object" none with
  accessFlags := 33
  interfaces := #[]
  cf := some (fileOf pool0 8 #[] #[{ accessFlags := 1, nameIndex := 5, descriptorIndex := 6, attributes := #[] }] 33 0 #[] #[])
  fields := #[]
  methods := #[k0m0]
  instanceTypes := #[]
  staticTypes := #[]
  resolved := Array.replicate 124 none
  statics := none }

def pool1 : Array CpInfo := pool [(2, .class_ 4), (1, u "java/lang/Object"), (0, u "<init>"), (0, u "()V"), (0, .methodref 8 9), (0, .class_ 10), (0, .nameAndType 11 12), (0, u "com/example/quietgrant/quietgrant/server/Session$State"), (0, u "of"), (0, u "(ZZ)Lcom/example/quietgrant/quietgrant/server/Session$State;"), (0, .fieldref 8 14), (0, .nameAndType 15 16), (0, u "EXPIRED"), (0, u "Lcom/example/quietgrant/quietgrant/server/Session$State;"), (0, .fieldref 8 18), (0, .nameAndType 19 16), (0, u "REVOKED"), (0, .fieldref 8 21), (0, .nameAndType 22 16), (0, u "ACTIVE"), (0, .class_ 24), (0, u "com/example/quietgrant/quietgrant/server/StateOfPinLaw"), (2, u "law"), (0, u "(I)Z")] 7

def k1m0 : Method := { name := "<init>", desc := "()V", sig := { parameters := [], returnType := none }, accessFlags := 1, code := none }
def k1c1 : Code := { maxStack := 2, maxLocals := 7, code := code, exceptionTable := #[], attributes := #[] }
def k1m1 : Method := { name := "law", desc := "(I)Z", sig := { parameters := [.int], returnType := some .boolean }, accessFlags := 9, code := some k1c1 }
/-- com/example/quietgrant/quietgrant/server/StateOfPinLaw -/
def k1 : Class := { plain "com/example/quietgrant/quietgrant/server/StateOfPinLaw" (some 0) with
  accessFlags := 49
  interfaces := #[]
  cf := some (fileOf pool1 23 #[] #[{ accessFlags := 1, nameIndex := 5, descriptorIndex := 6, attributes := #[] }, { accessFlags := 9, nameIndex := 27, descriptorIndex := 28, attributes := #[] }] 49 2 #[] #[])
  fields := #[]
  methods := #[k1m0, k1m1]
  instanceTypes := #[]
  staticTypes := #[]
  resolved := Array.replicate 36 none
  statics := none }

def pool2 : Array CpInfo := pool [(1, .class_ 2), (0, u "java/lang/constant/Constable"), (0, .class_ 4), (0, u "java/lang/Object")] 6

/-- java/lang/constant/Constable -/
def k2 : Class := { plain "java/lang/constant/Constable" (some 0) with
  accessFlags := 1537
  interfaces := #[]
  cf := some (fileOf pool2 1 #[] #[] 1537 3 #[] #[])
  fields := #[]
  methods := #[]
  instanceTypes := #[]
  staticTypes := #[]
  resolved := Array.replicate 11 none
  statics := none }

def pool3 : Array CpInfo := pool [(1, .class_ 2), (0, u "java/lang/Comparable"), (0, .class_ 4), (0, u "java/lang/Object")] 7

/-- java/lang/Comparable -/
def k3 : Class := { plain "java/lang/Comparable" (some 0) with
  accessFlags := 1537
  interfaces := #[]
  cf := some (fileOf pool3 1 #[] #[] 1537 3 #[] #[])
  fields := #[]
  methods := #[]
  instanceTypes := #[]
  staticTypes := #[]
  resolved := Array.replicate 12 none
  statics := none }

def pool4 : Array CpInfo := pool [(1, .class_ 2), (0, u "java/io/Serializable"), (0, .class_ 4), (0, u "java/lang/Object")] 2

/-- java/io/Serializable -/
def k4 : Class := { plain "java/io/Serializable" (some 0) with
  accessFlags := 1537
  interfaces := #[]
  cf := some (fileOf pool4 1 #[] #[] 1537 3 #[] #[])
  fields := #[]
  methods := #[]
  instanceTypes := #[]
  staticTypes := #[]
  resolved := Array.replicate 7 none
  statics := none }

def pool5 : Array CpInfo := pool [(2, .class_ 4), (1, u "java/lang/Enum"), (0, u "name"), (0, u "Ljava/lang/String;"), (2, u "ordinal"), (0, u "I"), (1, .class_ 14), (1, u "java/lang/Object"), (4, u "hash"), (86, .class_ 108), (1, u "java/lang/Enum$EnumDesc"), (2, .class_ 112), (0, u "java/lang/constant/Constable"), (0, .class_ 114), (0, u "java/lang/Comparable"), (0, .class_ 116), (0, u "java/io/Serializable")] 87

/-- java/lang/Enum -/
def k5 : Class := { plain "java/lang/Enum" (some 0) with
  accessFlags := 1057
  interfaces := #[2, 3, 4]
  cf := some (fileOf pool5 2 #[.nestMembers #[106]] #[] 1057 12 #[111, 113, 115] #[{ accessFlags := 18, nameIndex := 5, descriptorIndex := 6, attributes := #[] }, { accessFlags := 18, nameIndex := 9, descriptorIndex := 10, attributes := #[] }, { accessFlags := 2, nameIndex := 19, descriptorIndex := 10, attributes := #[] }])
  fields := #[{ name := "name", type := (.object "java/lang/String"), accessFlags := 18, slot := 0, constantValue := 0 }, { name := "ordinal", type := .int, accessFlags := 18, slot := 1, constantValue := 0 }, { name := "hash", type := .int, accessFlags := 2, slot := 2, constantValue := 0 }]
  methods := #[]
  instanceTypes := #[(.object "java/lang/String"), .int, .int]
  staticTypes := #[]
  resolved := Array.replicate 204 none
  statics := none }

def pool6 : Array CpInfo := pool [(1, .class_ 2), (0, u "com/example/quietgrant/quietgrant/server/Session$State"), (0, .fieldref 1 4), (0, .nameAndType 5 6), (0, u "ACTIVE"), (0, u "Lcom/example/quietgrant/quietgrant/server/Session$State;"), (0, .fieldref 1 8), (0, .nameAndType 9 6), (0, u "REVOKED"), (0, .fieldref 1 11), (0, .nameAndType 12 6), (0, u "EXPIRED"), (2, u "$VALUES"), (0, u "[Lcom/example/quietgrant/quietgrant/server/Session$State;"), (6, .class_ 25), (1, u "java/lang/Enum"), (21, u "of"), (0, u "(ZZ)Lcom/example/quietgrant/quietgrant/server/Session$State;"), (6, .class_ 56), (0, u "com/example/quietgrant/quietgrant/server/Session")] 2

def k6c0 : Code := { maxStack := 1, maxLocals := 2, code := prog_40_method_4_code, exceptionTable := #[], attributes := #[] }
def k6m0 : Method := { name := "of", desc := "(ZZ)Lcom/example/quietgrant/quietgrant/server/Session$State;", sig := { parameters := [.boolean, .boolean], returnType := some (.object "com/example/quietgrant/quietgrant/server/Session$State") }, accessFlags := 8, code := some k6c0 }
/-- com/example/quietgrant/quietgrant/server/Session$State -/
def k6 : Class := { plain "com/example/quietgrant/quietgrant/server/Session$State" (some 5) with
  accessFlags := 16433
  interfaces := #[]
  cf := some (fileOf pool6 1 #[.nestHost 55] #[{ accessFlags := 8, nameIndex := 47, descriptorIndex := 48, attributes := #[] }] 16433 23 #[] #[{ accessFlags := 16409, nameIndex := 5, descriptorIndex := 6, attributes := #[] }, { accessFlags := 16409, nameIndex := 9, descriptorIndex := 6, attributes := #[] }, { accessFlags := 16409, nameIndex := 12, descriptorIndex := 6, attributes := #[] }, { accessFlags := 4122, nameIndex := 15, descriptorIndex := 16, attributes := #[] }])
  fields := #[{ name := "ACTIVE", type := (.object "com/example/quietgrant/quietgrant/server/Session$State"), accessFlags := 16409, slot := 0, constantValue := 0 }, { name := "REVOKED", type := (.object "com/example/quietgrant/quietgrant/server/Session$State"), accessFlags := 16409, slot := 1, constantValue := 0 }, { name := "EXPIRED", type := (.object "com/example/quietgrant/quietgrant/server/Session$State"), accessFlags := 16409, slot := 2, constantValue := 0 }, { name := "$VALUES", type := (.array (.object "com/example/quietgrant/quietgrant/server/Session$State")), accessFlags := 4122, slot := 3, constantValue := 0 }]
  methods := #[k6m0]
  instanceTypes := #[(.object "java/lang/String"), .int, .int]
  staticTypes := #[(.object "com/example/quietgrant/quietgrant/server/Session$State"), (.object "com/example/quietgrant/quietgrant/server/Session$State"), (.object "com/example/quietgrant/quietgrant/server/Session$State"), (.array (.object "com/example/quietgrant/quietgrant/server/Session$State"))]
  resolved := Array.replicate 59 none
  statics := some 0 }

def pool7 : Array CpInfo := pool [(1, u "java/lang/Cloneable"), (0, .class_ 1), (0, u "java/lang/Object"), (0, .class_ 3)] 3

/-- java/lang/Cloneable -/
def k7 : Class := { plain "java/lang/Cloneable" (some 0) with
  accessFlags := 1537
  interfaces := #[]
  cf := some (fileOf pool7 2 #[] #[] 1537 4 #[] #[])
  fields := #[]
  methods := #[]
  instanceTypes := #[]
  staticTypes := #[]
  resolved := Array.replicate 8 none
  statics := none }

/-- the primitive byte -/
def k8 : Class := { plain "byte" none with kind := .primitive 'B', accessFlags := 0x411 }
/-- [B -/
def k9 : Class := { plain "[B" (some 0) with kind := .array 8 .byte, interfaces := #[7, 4], accessFlags := 1041 }

/-- the primitive int -/
def k10 : Class := { plain "int" none with kind := .primitive 'I', accessFlags := 0x411 }
/-- [I -/
def k11 : Class := { plain "[I" (some 0) with kind := .array 10 .int, interfaces := #[7, 4], accessFlags := 1041 }

def heap : Heap := #[{ cls := 6, slots := #[.ref 1, .ref 2, .ref 3, .null], vm := .statics 6 },
  { cls := 6, slots := #[.null, .int 0, .int 0], vm := .none },
  { cls := 6, slots := #[.null, .int 1, .int 0], vm := .none },
  { cls := 6, slots := #[.null, .int 2, .int 0], vm := .none }]
def classes : Array Class := #[k0, k1, k2, k3, k4, k5, k6, k7, k8, k9, k10, k11]
def interned : List (Array UInt16 × Addr) := []
def slotsUsed : Nat := 13
def theMethod : MethodId := ⟨1, 1⟩
def args0 : Array Value := #[.int 0]
def aboutOver (below : List Frame) : State where
  vm := { classes := classes, interned := interned.toArray }
  heap := heap
  slotsUsed := slotsUsed
  threads := #[{ frames := .invoking theMethod args0 :: below }]
def below0 : List Frame := [.native { method := ⟨0, 0⟩, args := #[] }]
def about1 : State := aboutOver below0
def p0 : Program := .bare "" "" ""
def e0 : Env := launch0.env 0 0 0
theorem w_frames : about1.frames = Frame.invoking theMethod args0 :: below0 := rfl
set_option maxRecDepth 65536 in
theorem w_args : argsFit about1.vm theMethod args0 = true := by decide +kernel
set_option maxRecDepth 65536 in
theorem w_heap : heapFits about1 = true := by decide +kernel
set_option maxRecDepth 65536 in
theorem w_runnable : about1.curStatus? = some .runnable := by decide +kernel
set_option maxRecDepth 65536 in
theorem w_alone : about1.alone = true := by decide +kernel
set_option maxRecDepth 65536 in
theorem w_named : about1.methodNamed? x = some theMethod := by decide +kernel
set_option maxRecDepth 65536 in
theorem w_hears : about1.hears theMethod below0 = true := by decide +kernel
set_option maxRecDepth 65536 in
theorem w_ripe : about1.ripe theMethod args0 below0 = true := by decide +kernel
theorem w_running : about1.status = .running := rfl
set_option maxRecDepth 65536 in
theorem w_room : about1.hasRoom e0.platform room_1 = true :=
  launch0.hasRoom_least _ room_1 (by decide +kernel) (by decide +kernel) (by decide +kernel) (by decide +kernel) (by decide +kernel) (by decide +kernel)
theorem allAtoms_all (ts : List Jvm.Cond) (a : Array Jvm.Value) (st : Jvm.State) : (allAtoms ts).before a st = ts.all (fun c => c.before a st) := by
  induction ts with
  | nil => rfl
  | cons c t ih =>
    show (Jvm.Cond.and c (allAtoms t)).before a st = _
    rw [Jvm.Cond.before_and, ih, List.all_cons]
def words1 : List Jvm.Cond := Jvm.Cond.code x code maxLocals ret :: tables_1
/-- a 'code' word, met by the world's own term for the bytes: nothing is compared byte by byte -/
theorem code_word {y : MethodName} {bytes : ByteArray} {mx : Nat} {rt : Option FieldType} {a : Array Value} {s : State} {m : MethodId} {meth : Method} {c : Code} (h1 : s.methodNamed? y = some m) (h2 : s.vm.method? m = some meth) (h3 : meth.code = some c) (h4 : c.code = bytes)
    (h5 : (c.maxLocals == mx && c.exceptionTable.isEmpty && decide (c.maxStack ≤ mostOperands) && decide (meth.sig.returnType = rt) && !meth.locks && decide (parseMethodDescriptor y.desc = some meth.sig)) = true) : (Jvm.Cond.code y bytes mx rt).before a s = true := by
  simp only [Bool.and_eq_true, beq_iff_eq, Bool.not_eq_true', decide_eq_true_eq] at h5
  obtain ⟨⟨⟨⟨⟨g1, g2⟩, g3⟩, g4⟩, g5⟩, g6⟩ := h5
  simp [Cond.before, Cond.holds, Cond.value, h1, h2, h3, h4, g1, g2, g3, g4, g5, g6]
def isCode : Jvm.Cond → Bool
  | .code _ _ _ _ => true
  | _ => false
theorem all_split {L : List Jvm.Cond} {P : Jvm.Cond → Bool} (h1 : L.all (fun c => isCode c || P c) = true) (h2 : ∀ c ∈ L.filter isCode, P c = true) : L.all P = true := by
  refine List.all_eq_true.mpr fun c hc => ?_
  have h := List.all_eq_true.mp h1 c hc
  rcases Bool.eq_false_or_eq_true (isCode c) with hi | hi
  · exact h2 c (List.mem_filter.mpr ⟨hc, hi⟩)
  · simpa [hi] using h
set_option maxRecDepth 65536 in
theorem w_c0 : (Jvm.Cond.code x code maxLocals ret).before args0 about1 = true := code_word (m := ⟨1, 1⟩) (meth := k1m1) (c := k1c1) (by decide +kernel) rfl rfl rfl (by decide +kernel)
set_option maxRecDepth 65536 in
theorem w_c1 : (Jvm.Cond.code ({ cls := "com/example/quietgrant/quietgrant/server/Session$State", name := "of", desc := "(ZZ)Lcom/example/quietgrant/quietgrant/server/Session$State;" } : Jvm.MethodName) prog_40_method_4_code (2 : Nat) (Option.some (Jvm.ClassFile.FieldType.object "com/example/quietgrant/quietgrant/server/Session$State"))).before args0 about1 = true := code_word (m := ⟨6, 0⟩) (meth := k6m0) (c := k6c0) (by decide +kernel) rfl rfl rfl (by decide +kernel)
def codes1 : List Jvm.Cond := [Jvm.Cond.code x code maxLocals ret, Jvm.Cond.code ({ cls := "com/example/quietgrant/quietgrant/server/Session$State", name := "of", desc := "(ZZ)Lcom/example/quietgrant/quietgrant/server/Session$State;" } : Jvm.MethodName) prog_40_method_4_code (2 : Nat) (Option.some (Jvm.ClassFile.FieldType.object "com/example/quietgrant/quietgrant/server/Session$State"))]
set_option maxRecDepth 65536 in
theorem codes_eq : words1.filter isCode = codes1 := rfl
theorem w_codes : ∀ c ∈ words1.filter isCode, c.before args0 about1 = true := by
  rw [codes_eq]
  intro c hc
  simp only [codes1, List.mem_cons, List.not_mem_nil, or_false] at hc
  rcases hc with rfl | rfl
  · exact w_c0
  · exact w_c1
set_option maxRecDepth 65536 in
theorem w_t1 : words1.all (fun c => isCode c || c.before args0 about1) = true := by decide +kernel
theorem w_tables : (allAtoms (Jvm.Cond.code x code maxLocals ret :: tables_1)).before args0 about1 = true := by
  rw [allAtoms_all]
  show words1.all (fun c => c.before args0 about1) = true
  refine all_split ?_ w_codes
  rw [w_t1]
set_option maxRecDepth 65536 in
theorem w_case : (Jvm.Cond.and given_1 narrow_1).before args0 about1 = true := by decide +kernel
theorem w_applies : (headSpec (Jvm.Cond.code x code maxLocals ret :: tables_1) room_1).applies x e0.platform about1 = true :=
  (Spec.applies_iff w_frames).mpr ⟨w_running, w_runnable, w_alone, w_named, w_hears, w_ripe, w_room, w_tables⟩
theorem atStart : AtStart classFile x code maxLocals ret World_1 tables_1 room_1 Calls_1 rest_1 Pre_1 launch0 p0 e0 about1 theMethod args0 below0 :=
  ⟨lists_1, trivial, launch0.admits_env _ _ _, launch0.least_env, fairChoices_fair.cas, fairChoices_fair.clock, w_frames, w_args, w_heap, w_applies, trivial, trivial, w_case⟩
end start1
theorem witness_1 : WitnessClaimed_1 := ⟨start1.p0, start1.e0, start1.about1, start1.theMethod, start1.args0, start1.below0, start1.atStart⟩
end Jvm.Pilot.@@N@@
